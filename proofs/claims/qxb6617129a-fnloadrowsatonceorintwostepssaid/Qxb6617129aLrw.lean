/-
  loadRows, at this dump.
-/
import Derived.Test.Qxb6617129aPln
import Derived.Test.Qxb6617129aMk
import Derived.Deep.LoopGhost
import Derived.Deep.CutRange
import Derived.Deep.RegionHeld3
import Derived.BigRegion
namespace Go.Proofs.Qxb6617129a
open Go.RowKit

def XS (X : Fin 3 → List Value) (st : List Value × List Value) : Fin 3 → List Value := putX (putX X 0 st.1) 2 st.2
theorem XS_0 (X : Fin 3 → List Value) (st : List Value × List Value) : XS X st 0 = st.1 := by simp [XS, putX]
theorem XS_1 (X : Fin 3 → List Value) (st : List Value × List Value) : XS X st 1 = X 1 := by simp [XS, putX]
theorem XS_2 (X : Fin 3 → List Value) (st : List Value × List Value) : XS X st 2 = st.2 := by simp [XS, putX]
theorem XS_self (X : Fin 3 → List Value) : XS X (X 0, X 2) = X := by
  funext i
  match i with
  | 0 => exact XS_0 _ _
  | 1 => exact XS_1 _ _
  | 2 => exact XS_2 _ _
theorem XS_put0 (X : Fin 3 → List Value) (st : List Value × List Value) (a : List Value) : putX (XS X st) 0 a = XS X (a, st.2) := by
  funext i
  match i with
  | 0 => simp [XS, putX]
  | 1 => simp [XS, putX]
  | 2 => simp [XS, putX]
theorem XS_put2 (X : Fin 3 → List Value) (st : List Value × List Value) (a : List Value) : putX (XS X st) 2 a = XS X (st.1, a) := by
  funext i
  match i with
  | 0 => simp [XS, putX]
  | 1 => simp [XS, putX]
  | 2 => simp [XS, putX]

/-- The Grid with 'loaded' set. -/
def gl (g : GA) (r : Nat) : GA := { g with ld := (r : Int) }

/-- The Grid's block. -/
def Fx (q : Nat) (g : GA) (w : World) : Prop := w.heap[q]? = some (.cells g.cells 52 (0, 0))
theorem Fx.set {q b : Nat} {g : GA} {w : World} (h : Fx q g w) (hb : b ≠ q) (j : Nat) (v : Value) : Fx q g (w.setCell ⟨b, j, none⟩ v) := (Below.heap_setCell _ _ _ _ (Ne.symm hb)).trans h
theorem Fx.drew {q : Nat} {g : GA} {w : World} (h : Fx q g w) : Fx q g w.drew := h
theorem Fx.cell {q : Nat} {g : GA} {w : World} (h : Fx q g w) (j : Nat) (v : Value) (hj : g.cells[j]? = some v) : w.cell? ⟨q, j, none⟩ = some v := by rw [Lib.cell_of_heap h]; exact hj

/-- The Grid's block and one word more. -/
def Fz (q : Nat) (g : GA) (b K : Nat) (v : Value) (w : World) : Prop := Fx q g w ∧ w.cell? ⟨b, K, none⟩ = some v
theorem Fz.set {q b K c : Nat} {g : GA} {v : Value} {w : World} (h : Fz q g b K v w) (h1 : c ≠ q) (h2 : c ≠ b) (j : Nat) (u : Value) : Fz q g b K v (w.setCell ⟨c, j, none⟩ u) :=
  ⟨h.1.set h1 j u, by rw [World.cell?_setCell_other _ _ _ _ (fun e => h2 (by injection e))]; exact h.2⟩
theorem Fz.drew {q b K : Nat} {g : GA} {v : Value} {w : World} (h : Fz q g b K v w) : Fz q g b K v w.drew := h

set_option maxHeartbeats 800000 in
set_option maxRecDepth 100000 in
theorem loadRows (Pt : Nat → Prop) (q : Nat) (g : GA) (X : Fin 3 → List Value) (ce : List Value) (l cn wn m : Nat) (w : World) (H : Gr Pt q g X w) (hce : Rs Pt IsU ce g.ce.ao g.ce.n g.ce.c w) (hld : g.ld = l) (hcc : g.c = cn) (hww : g.wd = wn) (han : g.a.n = wn)
    (hu : wn ≤ g.u.n) (hX : ∀ i, ∀ v ∈ X i, IsU v) (hm : m = (g.r - l).toNat) (hlm : 0 < m → l + m ≤ 32768) (hcn : cn ≤ 32768) (hwn : wn ≤ 131072) (hh : ∀ r, l ≤ r → r < l + m → r * wn + wn ≤ g.h.n) (hcs : ∀ r i, l ≤ r → r < l + m → i < wn → (r * cn + 64 * i) / 64 < g.ce.n) :
    Calls Try.prog 31 #[.pointer (some ⟨q, 0, none⟩)] w fun e w' => e = .returned (.tuple #[]) ∧ Kept Pt w w' ∧ Gr Pt q (gl g (l + m)) (XS X (rowsF ce (X 1) cn wn l m (X 0, X 2))) w' := by
  have H0 : Gr Pt q (gl g l) (XS X (rowsF ce (X 1) cn wn l 0 (X 0, X 2))) w := by
    have e : gl g l = g := by unfold gl; rw [← hld]
    rw [e]
    show Gr Pt q g (XS X (X 0, X 2)) w
    rw [XS_self]
    exact H
  have la : (X 1).length = wn := by have := (H.own 1).1; rw [Nat.mul_one] at this; exact this.trans han
  have ok0 : StOk g.h.n g.u.n (X 0, X 2) := ⟨by have := (H.own 0).1; rw [Nat.mul_one] at this; exact this, by have := (H.own 2).1; rw [Nat.mul_one] at this; exact this, hX 0, hX 2⟩
  have okS := Lib.hid (fun j r i (hi : i ≤ wn) => rowF_ok (ce := ce) (cn := cn) (wn := wn) (r := r) (rowsF_ok (ce := ce) (cn := cn) (wn := wn) (l := l) ok0 (hX 1) (by omega) la.symm j) (hX 1) (by omega) i (by omega))
  clear ok0
  have HF := Lib.hid (And.intro hld (And.intro hm hlm))
  have HH := Lib.hid (And.intro hX (And.intro hh hcs))
  have Hc := Lib.hid hce
  clear hld hm hlm H hX hh hcs hce
  go_enter Try.func31, Try.ntmps31
  go_wp2
  go_loopg [2] m (fun k _ wr => ∃ j : Nat, j + k = m ∧ Kept Pt w wr ∧ Gr Pt q (gl g (l + j)) (XS X (rowsF ce (X 1) cn wn l j (X 0, X 2))) wr)
  case atStart => exact ⟨0, by omega, Kept.refl _ _, H0⟩
  case round =>
    obtain ⟨j, hj, kp, Hj⟩ := hrel
    obtain ⟨r, hr⟩ : ∃ r, r = l + j := ⟨_, rfl⟩
    rw [← hr] at Hj
    have Hr := Lib.hid (And.intro hr hj)
    have c0 : wr.cell? ⟨q, 0, none⟩ = some (.int .i64 g.r) := Hj.cell 0 _ rfl
    have c7 : wr.cell? ⟨q, 7, none⟩ = some (.int .i64 r) := Hj.cell 7 _ rfl
    have f7 := Hj.frozen 7
    by_cases hjm : j < m
    · have t1 : (r : Int) < g.r := by have := HF.out; omega
      have c1 : wr.cell? ⟨q, 1, none⟩ = some (.int .i64 cn) := by rw [← hcc]; exact Hj.cell 1 _ rfl
      have c4 : wr.cell? ⟨q, 4, none⟩ = some (.slice g.a.ao wn g.a.c) := by rw [← han]; exact Hj.cell 4 _ rfl
      have r2 : r ≤ 32768 := by have := HF.out; omega
      have hrl : l ≤ r ∧ r < l + m := by omega
      obtain ⟨P, hP⟩ : ∃ P, P = r * cn := ⟨_, rfl⟩
      have hP2 : P ≤ 1073741824 := by
        rw [hP]
        exact Nat.le_trans (Nat.mul_le_mul r2 hcn) (by omega)
      have hst : IntKind.i64.wrap ((r : Int) * (cn : Int)) = (P : Int) := by
        have e : (r : Int) * (cn : Int) = ((r * cn : Nat) : Int) := (Int.natCast_mul r cn).symm
        rw [e, ← hP]
        exact IntWalk.i64_in _ ⟨by omega, by omega⟩
      have HP := Lib.hid hP
      clear hr hj hP
      go_wp2
      go_quiet (fail)
      go_wp2
      go_quiet (fail)
      go_wp2
      obtain ⟨S0, hS0⟩ : ∃ S0, S0 = rowsF ce (X 1) cn wn l j (X 0, X 2) := ⟨_, rfl⟩
      rw [← hS0] at Hj
      have HS := Lib.hid hS0
      clear hS0 c0 c1 c4 t1 hst
      go_loopw [2, 36] (fun st ix wx => ∃ i : Nat, i ≤ wn ∧ ix = .int .i64 i ∧ st = .int .u64 (P + 64 * i : Nat) ∧ Kept Pt w wx ∧ Gr Pt q (gl g r) (XS X (rowF ce (X 1) cn wn r i S0)) wx) (fun _ ix _ => wn - (intOf ix).toNat)
      case atStart => exact ⟨0, Nat.zero_le _, rfl, by simp, kp.drewN _, Hj.drewN _⟩
      case round =>
        obtain ⟨i, hi, rfl, rfl, kx, Hx⟩ := hrel
        by_cases hiw : i < wn
        · obtain ⟨Q, hQ⟩ : ∃ Q, Q = r * wn := ⟨_, rfl⟩
          obtain ⟨K, hK⟩ : ∃ K, K = Q + i := ⟨_, rfl⟩
          have hKn : K < g.h.n := by have := HH.out.2.1 r hrl.1 hrl.2; omega
          obtain ⟨S, hS⟩ : ∃ S, S = rowF ce (X 1) cn wn r i S0 := ⟨_, rfl⟩
          rw [← hS] at Hx
          obtain ⟨ba, ca, ea, da, _, _, _, _⟩ := Hx.elt 1 i (by show i < g.a.n; omega)
          obtain ⟨bh, ch, eh, dh, fh, hch, hch2, uph⟩ := Hx.elt 0 K hKn
          have wa := wN_of (wN_lt (HH.out.1 1) i (by omega)).1
          have wm := wa.2
          rw [XS_1, wa.1] at da
          obtain ⟨mk, hmk⟩ : ∃ mk, mk = wN (X 1) i := ⟨_, rfl⟩
          rw [← hmk] at da wm
          change g.a = ⟨some ⟨ba, 0, none⟩, g.a.n, ca⟩ at ea
          change g.h = ⟨some ⟨bh, 0, none⟩, g.h.n, ch⟩ at eh
          have ea1 : g.a.ao = some ⟨ba, 0, none⟩ := by rw [ea]
          have Hea := Lib.hid ea1
          have hbq : bh ≠ q := (Hx.away 0 bh (by show (g.h).v.ownBlock = some bh; rw [eh]; rfl)).2
          obtain ⟨A, hA⟩ : ∃ A, A = (P + 64 * i) / 64 := ⟨_, rfl⟩
          obtain ⟨Bt, hBt⟩ : ∃ Bt, Bt = (P + 64 * i) % 64 := ⟨_, rfl⟩
          have hAn : A < g.ce.n := by rw [hA, HP.out]; exact HH.out.2.2 r i hrl.1 hrl.2 hiw
          have hmul : IntKind.i64.wrap ((r : Int) * (wn : Int)) = (Q : Int) := by
            have e : (r : Int) * (wn : Int) = ((r * wn : Nat) : Int) := (Int.natCast_mul r wn).symm
            rw [e, ← hQ]
            exact IntWalk.i64_in _ ⟨by omega, by have := hch; change g.h.n ≤ ch at this; omega⟩
          have hW : bitsN ce A Bt mk = word ce (X 1) cn r i := by rw [hA, hBt, hmk, HP.out]; rfl
          have R33 := Lib.hid (fun W (hW : Kept Pt w W) (z : Int) (h1 : z / 64 = A) (h2 : z % 64 = Bt) (h0 : 0 ≤ z) => bitsAt Pt ce g.ce.ao g.ce.n g.ce.c A Bt mk z W (Hc.out.kept hW) hAn (by omega) h1 h2 h0 wm)
          have HQ := Lib.hid (And.intro (hK.trans (congrArg (· + i) hQ)) (And.intro hS (And.intro hmk hW)))
          have HA := Lib.hid (And.intro hA hBt)
          have F0 : Fx q (gl g r) wr := Hx.blk
          have F1 : Fx q (gl g r) wr.drew := Hx.blk
          have T2 : ∀ w', Fx q (gl g r) w' → w'.cell? ⟨q, 2, none⟩ = some (.int .i64 wn) := fun w' h => by rw [← hww]; exact h.cell 2 _ rfl
          have T3 : ∀ w', Fx q (gl g r) w' → w'.cell? ⟨q, 3, none⟩ = some (.slice (some ⟨bh, 0, none⟩) g.h.n ch) := fun w' h => by
            refine (h.cell 3 (.slice g.h.ao g.h.n g.h.c) rfl).trans ?_
            rw [eh]
          have T6 : ∀ w', Fx q (gl g r) w' → w'.cell? ⟨q, 6, none⟩ = some (.slice g.ce.ao g.ce.n g.ce.c) := fun w' h => h.cell 6 _ rfl
          have T7 : ∀ w', Fx q (gl g r) w' → w'.cell? ⟨q, 7, none⟩ = some (.int .i64 r) := fun w' h => h.cell 7 _ rfl
          have i1 : (i : Int) < wn := by omega
          have i0 : (0 : Int) ≤ i := by omega
          have j1 : (K : Int) < g.h.n := by omega
          have j0 : (0 : Int) ≤ K := by omega
          have hadd : IntKind.i64.wrap ((Q : Int) + (i : Int)) = (K : Int) := by
            have e : (Q : Int) + (i : Int) = (K : Int) := by omega
            rw [e]
            exact IntWalk.i64_in _ ⟨by omega, by have := hch; change g.h.n ≤ ch at this; omega⟩
          clear hQ hS hmk hA hBt ea eh hW wa hK
          go_wp2
          go_region_held3 (fun w' => Fx q (gl g r) w') (first | with_reducible assumption | (with_reducible refine Fx.drew (Fx.set ?_ hbq _ _); with_reducible assumption)) ((go_at_call 33; refine (R33.out _ (by exact kx.drewN 1) _ (by have := HA.out; omega) (by have := HA.out; omega) (by omega)).mono ?_; rintro e w9 ⟨rfl, hw9⟩; replace hw9 := hw9.symm; subst hw9))
          obtain ⟨n, hn⟩ : ∃ n : Nat, n = bitsN ce A Bt mk := ⟨_, rfl⟩
          rw [← hn]
          have nlt : n < 18446744073709551616 := by rw [hn]; exact Nat.lt_of_le_of_lt Nat.and_le_right wm
          obtain ⟨W1, hW1⟩ : ∃ W1, W1 = (wr.setCell ⟨bh, K, none⟩ (.int .u64 (n : Nat))).drew := ⟨_, rfl⟩
          have H1 : Gr Pt q (gl g r) (XS X (S.1.set K (.int .u64 (n : Nat)), S.2)) W1 := by
            have := (uph (.int .u64 (n : Nat))).1
            rw [XS_0, XS_put0] at this
            rw [hW1]
            exact this.same rfl
          rw [← hW1]
          have k1 : Kept Pt w W1 := by
            rw [hW1]
            exact (kx.trans (uph _).2).drewN 1
          have dh1 : W1.cell? ⟨bh, K, none⟩ = some (.int .u64 (n : Nat)) := by
            rw [hW1]
            exact World.cell?_setCell_same _ _ _ dh
          have Hn := Lib.hid hn
          clear hW1 hn da dh fh F0 F1 uph kx R33 ea1 i1 i0 Hx
          obtain ⟨bu, cu, eu, du, fu, hcu, hcu2, upu⟩ := H1.elt 2 i (by show i < g.u.n; omega)
          change g.u = ⟨some ⟨bu, 0, none⟩, g.u.n, cu⟩ at eu
          have obu : ((gl g r).sl 2).v.ownBlock = some bu := by show (g.u).v.ownBlock = some bu; rw [eu]; rfl
          have hbuq : bu ≠ q := (H1.away 2 bu obu).2
          have hbuh : bu ≠ bh := fun e => by
            have h3 : g.h.ao = some ⟨bh, 0, none⟩ := by
              have := (T3 W1 H1.blk).symm.trans ((Fx.cell (q := q) (g := gl g r) H1.blk 3 (.slice g.h.ao g.h.n g.h.c) rfl))
              injection this with this
              injection this with this
              exact this.symm
            have h4 : ((gl g r).sl 0).v.ownBlock = some bu := by
              rw [e]
              show (Value.slice g.h.ao g.h.n g.h.c).ownBlock = some bh
              rw [h3]; rfl
            exact H1.apart 2 0 (by decide) bu obu h4
          have okk := okS.out j r i hi
          rw [← HS.out, ← HQ.out.2.1] at okk
          have wu := wN_of (wN_lt okk.t2 i (by rw [okk.l2]; omega)).1
          rw [XS_2] at du
          change W1.cell? ⟨bu, i, none⟩ = some (S.2.getD i undef) at du
          rw [wu.1] at du
          have ulm := wu.2
          obtain ⟨uw, huw⟩ : ∃ uw, uw = wN S.2 i := ⟨_, rfl⟩
          rw [← huw] at du ulm
          have hor : bits .or .u64 (uw : Int) (n : Int) = ((uw ||| n : Nat) : Int) := bits_or_u64_nat _ _ ulm nlt
          have Hu := Lib.hid (And.intro huw nlt)
          have Z1 : Fz q (gl g r) bh K (.int .u64 (n : Nat)) W1 := ⟨H1.blk, dh1⟩
          have Z2 : Fz q (gl g r) bh K (.int .u64 (n : Nat)) W1.drew := ⟨H1.blk, dh1⟩
          have U2 : ∀ w', Fz q (gl g r) bh K (.int .u64 (n : Nat)) w' → w'.cell? ⟨q, 2, none⟩ = some (.int .i64 wn) := fun w' h => T2 w' h.1
          have U3 : ∀ w', Fz q (gl g r) bh K (.int .u64 (n : Nat)) w' → w'.cell? ⟨q, 3, none⟩ = some (.slice (some ⟨bh, 0, none⟩) g.h.n ch) := fun w' h => T3 w' h.1
          have U5 : ∀ w', Fz q (gl g r) bh K (.int .u64 (n : Nat)) w' → w'.cell? ⟨q, 5, none⟩ = some (.slice (some ⟨bu, 0, none⟩) g.u.n cu) := fun w' h => by
            refine (h.1.cell 5 (.slice g.u.ao g.u.n g.u.c) rfl).trans ?_
            rw [eu]
          have U7 : ∀ w', Fz q (gl g r) bh K (.int .u64 (n : Nat)) w' → w'.cell? ⟨q, 7, none⟩ = some (.int .i64 r) := fun w' h => T7 w' h.1
          have U8 : ∀ w', Fz q (gl g r) bh K (.int .u64 (n : Nat)) w' → w'.cell? ⟨bh, K, none⟩ = some (.int .u64 (n : Nat)) := fun w' h => h.2
          have i1 : (i : Int) < g.u.n := by omega
          have i0 : (0 : Int) ≤ i := by omega
          clear T2 T3 T6 T7 eu dh1 wu okk huw nlt ulm obu
          go_wp2
          have v2 := U2 W1 Z1
          have v3 := U3 W1 Z1
          have v5 := U5 W1 Z1
          have v7 := U7 W1 Z1
          have v8 := U8 W1 Z1
          clear U2 U3 U5 U7 U8 Z1 Z2
          go_region
          obtain ⟨W2, hW2⟩ : ∃ W2, W2 = (W1.setCell ⟨bu, i, none⟩ (.int .u64 ((uw ||| n : Nat) : Int))).drew := ⟨_, rfl⟩
          have H2 : Gr Pt q (gl g r) (XS X (rowF ce (X 1) cn wn r (i + 1) S0)) W2 := by
            have := (upu (.int .u64 ((uw ||| n : Nat) : Int))).1
            rw [XS_2, XS_put2] at this
            have e : rowF ce (X 1) cn wn r (i + 1) S0 = (S.1.set K (.int .u64 (n : Nat)), S.2.set i (.int .u64 ((uw ||| n : Nat) : Int))) := by
              show stepF ce (X 1) cn wn r i (rowF ce (X 1) cn wn r i S0) = _
              rw [← HQ.out.2.1]
              unfold stepF
              rw [← HQ.out.1, ← HQ.out.2.2.2, ← Hn.out, ← Hu.out.1]
            rw [e, hW2]
            exact this.same rfl
          have k2 : Kept Pt w W2 := by
            rw [hW2]
            exact (k1.trans (upu _).2).drewN 1
          rw [← hW2]
          have hst2 : IntKind.u64.wrap ((P : Int) + 64 * (i : Int) + 64) = (P : Int) + 64 * (i : Int) + 64 := IntWalk.u64_in _ ⟨by omega, by omega⟩
          clear hW2 v2 v3 v5 v7 v8 du fu upu hor
          go_wp2
          have es : Value.int IntKind.u64 ((P : Int) + 64 * (i : Int) + 64) = .int .u64 ((P + 64 * (i + 1) : Nat) : Int) := congrArg (Value.int .u64) (by omega)
          have ei : Value.int IntKind.i64 ((i : Int) + 1) = .int .i64 ((i + 1 : Nat) : Int) := congrArg (Value.int .i64) (by omega)
          rw [Hea.out]
          go_roundw
          case rel => exact ⟨i + 1, by omega, ei, es, k2, H2⟩
          case measure => simp [intOf]; omega
        · have d7 : wr.cell? ⟨q, 7, none⟩ = some (.int .i64 r) := Hx.cell 7 _ rfl
          have g7 := Hx.frozen 7
          have ei : i = wn := by omega
          have hr3 : (r : Int) + 1 = ((r + 1 : Nat) : Int) := by omega
          have H3 : Gr Pt q (gl g (r + 1)) (XS X (rowsF ce (X 1) cn wn l (j + 1) (X 0, X 2))) (wr.setCell ⟨q, 7, none⟩ (.int .i64 ((r : Int) + 1))) := by
            rw [hr3]
            have := Hx.field (g' := gl g (r + 1)) 7 (.int .i64 ((r + 1 : Nat) : Int)) rfl rfl
            have e : rowsF ce (X 1) cn wn l (j + 1) (X 0, X 2) = rowF ce (X 1) cn wn r i S0 := by
              rw [ei, HS.out, Hr.out.1]
              rfl
            rw [e]
            exact this
          have k3 : Kept Pt w (wr.setCell ⟨q, 7, none⟩ (.int .i64 ((r : Int) + 1))) := kx.trans (Hx.field_kept 7 _)
          have H4 := Lib.hid (And.intro H3 k3)
          clear H3 k3 ei hr3 Hx kx
          go_wp2
          go_roundg (gk - 1)
          case measure => have := Hr.out; omega
          case rel =>
            refine ⟨j + 1, by have := Hr.out; omega, H4.out.2, ?_⟩
            have e : l + (j + 1) = r + 1 := by have := Hr.out; omega
            rw [e]
            exact H4.out.1
    · have t1 : ¬ (r : Int) < g.r := by have := HF.out; have := Hr.out; omega
      have ej : j = m := by have := Hr.out; omega
      clear hr hj
      go_wp2
      go_quiet (fail)
      go_wp2
      go_end0
      refine ⟨rfl, kp.drewN _, ?_⟩
      rw [← ej, ← Hr.out.1]
      exact Hj.drewN _

end Go.Proofs.Qxb6617129a
