/-
  (*Grid).Reset, at this dump.
-/
import Derived.Test.Qxb6617129aLow
import Derived.Deep.RegionHeld3
import Derived.RegionTactic
import Derived.Deep.RegionWith
import Derived.Deep.CutRange
namespace Go.Proofs.Qxb6617129a
open Go.RowKit

/-- What Reset makes of 'skipped'. -/
def SkOf (rn : Nat) (s s' : SV) (w w' : World) : Prop :=
  (rn ≤ s.c ∧ s' = ⟨s.ao, rn, s.c⟩) ∨ (s.c < rn ∧ ∃ b, w.heap.size ≤ b ∧ s' = ⟨some ⟨b, 0, none⟩, rn, rn⟩ ∧ w'.heap[b]? = some (.cells (List.replicate rn (Value.bool false)).toArray 4 (0, 0)))

theorem slice_sk (ao : Option Addr) (n c k : Nat) (hk : k ≤ c) (W : World) : (Instr.slice 24 (.slice ao n c) none (some (.int .i64 (k : Int))) none).run Try.prog W = .ok (.slice ao k c) W := by
  have h0 : (0 : Int) ≤ k := by omega
  have h1 : (k : Int) ≤ c := by omega
  cases ao
  · go_simp
  · go_simp

theorem own_form {w : World} {e n : Nat} {v : Value} {xs : List Value} (h : w.ownsRow 0 e 1 v n xs) : ∃ ao c, v = .slice ao n c := by
  rcases h.2 with ⟨rfl, rfl⟩ | ⟨g, cap, cur, rfl, _⟩
  · exact ⟨_, _, rfl⟩
  · exact ⟨_, _, rfl⟩

theorem resized2 (v : Value) (n : Nat) (xs : List Value) (w : World) (m : Nat) (h : w.ownsRow 0 41 1 v n xs) (hm : m ≤ 16777216) :
    Calls Try.prog 29 #[v, .int .i64 m] w fun e w' => ∃ ao c, e = .returned (.slice ao m c) ∧ w'.ownsRow 0 41 1 (.slice ao m c) m (zeros m) ∧ w.grownBy w' v.ownBlock ∧ ∀ k, (Value.slice ao m c).ownBlock = some k → v.ownBlock = some k ∨ w.heap.size ≤ k := by
  refine (resized v n xs w m h hm).mono ?_
  rintro e w' ⟨v', rfl, h1, h2, h3⟩
  obtain ⟨ao, c, rfl⟩ := own_form h1
  exact ⟨ao, c, rfl, h1, h2, h3⟩

theorem resized3 (v : Value) (n : Nat) (xs : List Value) (w : World) (m : Nat) (h : w.ownsRow 0 41 1 v n xs) (hm : m ≤ 16777216) (i : Int) (hi : i = m) :
    Calls Try.prog 29 #[v, .int .i64 i] w fun e w' => ∃ ao c, e = .returned (.slice ao m c) ∧ w'.ownsRow 0 41 1 (.slice ao m c) m (zeros m) ∧ w.grownBy w' v.ownBlock ∧ ∀ k, (Value.slice ao m c).ownBlock = some k → v.ownBlock = some k ∨ w.heap.size ≤ k := by
  subst hi
  exact resized2 v n xs w m h hm

set_option maxHeartbeats 1600000 in
set_option maxRecDepth 100000 in
theorem reset (Pt : Nat → Prop) (q : Nat) (g : GA) (X : Fin 3 → List Value) (rn cn wn : Nat) (w : World) (H : Gr Pt q g X w) (hr : rn ≤ 65536) (hc : cn ≤ 65536) (hwn : wordsOf cn = wn) (hrw : rn * wn ≤ 65536) (hsk : g.sk.c ≤ 9223372036854775807) :
    Calls Try.prog 11 #[.pointer (some ⟨q, 0, none⟩), .int .i64 rn, .int .i64 cn] w fun e w' => e = .returned (.tuple #[]) ∧ Kept Pt w w' ∧ ∃ s1 s2 s3 sk : SV, ∃ X' : Fin 3 → List Value, Gr Pt q { g with r := rn, c := cn, wd := wn, h := s1, a := s2, u := s3, ld := rn, sk := sk } X' w' ∧
      s1.n = rn * wn ∧ s2.n = wn ∧ s3.n = wn ∧ X' 0 = zeros (rn * wn) ∧ X' 1 = allL cn wn ∧ X' 2 = zeros wn ∧ SkOf rn g.sk sk w w' := by
  have hwn2 : ((cn : Int) + 63) / 64 = wn := by rw [← hwn]; unfold wordsOf; omega
  have hwb : wn ≤ 1024 := by rw [← hwn]; unfold wordsOf; omega
  have Hwn := Lib.hid hwn
  have Hinn := Lib.hid H.inn
  clear hwn
  have c0 := H.cell 0 _ rfl
  have c1 := H.cell 1 _ rfl
  have c2 := H.cell 2 _ rfl
  have f0 := H.frozen 0
  have f1 := H.frozen 1
  have f2 := H.frozen 2
  have H1 := ((H.field (g' := { g with r := rn }) 0 (.int .i64 rn) rfl rfl).field (g' := { g with r := rn, c := cn }) 1 (.int .i64 cn) rfl rfl).field (g' := { g with r := rn, c := cn, wd := wn }) 2 (.int .i64 wn) rfl rfl
  have K1 : Kept Pt w (((w.setCell ⟨q, 0, none⟩ (.int .i64 rn)).setCell ⟨q, 1, none⟩ (.int .i64 cn)).setCell ⟨q, 2, none⟩ (.int .i64 wn)) := (((Kept.refl Pt w).setCell (p := ⟨q, 0, none⟩) H.pq _).setCell (p := ⟨q, 1, none⟩) H.pq _).setCell (p := ⟨q, 2, none⟩) H.pq _
  obtain ⟨W1, hW1⟩ : ∃ W1, W1 = ((w.setCell ⟨q, 0, none⟩ (.int .i64 rn)).setCell ⟨q, 1, none⟩ (.int .i64 cn)).setCell ⟨q, 2, none⟩ (.int .i64 wn) := ⟨_, rfl⟩
  rw [← hW1] at H1 K1
  have HW1 := Lib.hid hW1
  clear hW1
  go_enter Try.func11, Try.ntmps11
  go_wp2_with fail
  rw [← HW1.out]
  clear HW1 c0 c1 c2 f0 f1 f2 hwn2 H
  obtain ⟨g1, hg1⟩ : ∃ g1 : GA, g1 = { g with r := rn, c := cn, wd := wn } := ⟨_, rfl⟩
  rw [← hg1] at H1
  have Hg1 := Lib.hid hg1
  have ew1 : g1.wd = wn := by rw [hg1]
  clear hg1
  obtain ⟨X1, hX1⟩ : ∃ X1, X1 = X := ⟨_, rfl⟩
  rw [← hX1] at H1
  have HX1 := Lib.hid hX1
  clear hX1
  have hmul : (rn : Int) * wn = ((rn * wn : Nat) : Int) := by simp
  obtain ⟨m, hm⟩ : ∃ m, m = rn * wn := ⟨_, rfl⟩
  rw [← hm] at hmul hrw
  have Hm := Lib.hid hm
  clear hm
  have hm3 : IntKind.i64.wrap (m : Int) = m := IntWalk.i64_in _ (by omega)
  have cA1 : W1.cell? ⟨q, 3, none⟩ = some (.slice g1.h.ao g1.h.n g1.h.c) := H1.cell 3 _ rfl
  have cB1 : W1.cell? ⟨q, 2, none⟩ = some (.int .i64 wn) := by rw [← ew1]; exact H1.cell 2 _ rfl
  have fA1 := H1.frozen 3
  have R1 : ∀ W : World, W.heap = W1.heap → W.ownsRow 0 41 1 (.slice g1.h.ao g1.h.n g1.h.c) g1.h.n (X1 0) := fun W hW => own_keep (H1.own 0) fun _ _ => by rw [hW]
  go_cut [] from 21 to 34 (fun wx => ∃ s : SV, s.n = m ∧ Gr Pt q (g1.put 0 s) (putX X1 0 (zeros m)) wx ∧ Kept Pt W1 wx)
  case first =>
    go_region_with (go_at_call 29; refine (resized3 (.slice g1.h.ao g1.h.n g1.h.c) g1.h.n (X1 0) _ m (by exact R1 _ rfl) (by omega) _ (by first | exact hmul | (rw [hmul]; exact hm3) | exact hm3 | rfl)).mono ?_; rintro e w2 ⟨a2, k2, rfl, o2, gr2, b2⟩; have gr2 : W1.grownBy w2 (g1.sl 0).v.ownBlock := ⟨gr2.os, gr2.tape, gr2.output, gr2.size, gr2.block⟩; have blk2 : w2.heap[q]? = some (.cells g1.cells 52 (0, 0)) := (gr2.block q H1.lt (fun e => (H1.away 0 q e.symm).2 rfl)).trans H1.blk; have q0 : w2.cell? ⟨q, 3, none⟩ = some (.slice g1.h.ao g1.h.n g1.h.c) := by { rw [Lib.cell_of_heap blk2]; rfl }; have q2 : w2.frozen? ⟨q, 3, none⟩ = false := Lib.frozen_of_heap blk2 3)
    all_goals (go_wp2_with fail; go_meet; have hh := H1.step 0 ⟨a2, m, k2⟩ (zeros m) gr2 o2 b2; exact ⟨⟨a2, m, k2⟩, rfl, hh.1, hh.2⟩)
  case rest =>
  obtain ⟨s1, hs1, H2, K2⟩ := hcut
  clear cA1 cB1 fA1 R1
  rename World => W2
  obtain ⟨g2, hg2⟩ : ∃ g2 : GA, g2 = g1.put 0 s1 := ⟨_, rfl⟩
  obtain ⟨X2, hX2⟩ : ∃ X2, X2 = putX X1 0 (zeros m) := ⟨_, rfl⟩
  rw [← hg2, ← hX2] at H2
  have ew2 : g2.wd = wn := by rw [hg2]; exact ew1
  have Hg2 := Lib.hid hg2
  have HX2 := Lib.hid hX2
  have Hs1 := Lib.hid hs1
  have HK2 := K1.trans K2
  clear hg2 hX2 hs1 K2 H1 ew1 K1
  have K2 := HK2
  clear HK2
  go_wp2_with fail
  have cA2 : W2.cell? ⟨q, 4, none⟩ = some (.slice g2.a.ao g2.a.n g2.a.c) := H2.cell 4 _ rfl
  have cB2 : W2.cell? ⟨q, 2, none⟩ = some (.int .i64 wn) := by rw [← ew2]; exact H2.cell 2 _ rfl
  have fA2 := H2.frozen 4
  have R2 : ∀ W : World, W.heap = W2.heap → W.ownsRow 0 41 1 (.slice g2.a.ao g2.a.n g2.a.c) g2.a.n (X2 1) := fun W hW => own_keep (H2.own 1) fun _ _ => by rw [hW]
  go_cut [] from 35 to 46 (fun wx => ∃ s : SV, s.n = wn ∧ Gr Pt q (g2.put 1 s) (putX X2 1 (zeros wn)) wx ∧ Kept Pt W2 wx)
  case first =>
    go_region_with (go_at_call 29; refine (resized3 (.slice g2.a.ao g2.a.n g2.a.c) g2.a.n (X2 1) _ wn (by exact R2 _ rfl) (by omega) _ (by first | exact hmul | (rw [hmul]; exact hm3) | exact hm3 | rfl)).mono ?_; rintro e w2 ⟨a2, k2, rfl, o2, gr2, b2⟩; have gr2 : W2.grownBy w2 (g2.sl 1).v.ownBlock := ⟨gr2.os, gr2.tape, gr2.output, gr2.size, gr2.block⟩; have blk2 : w2.heap[q]? = some (.cells g2.cells 52 (0, 0)) := (gr2.block q H2.lt (fun e => (H2.away 1 q e.symm).2 rfl)).trans H2.blk; have q0 : w2.cell? ⟨q, 4, none⟩ = some (.slice g2.a.ao g2.a.n g2.a.c) := by { rw [Lib.cell_of_heap blk2]; rfl }; have q2 : w2.frozen? ⟨q, 4, none⟩ = false := Lib.frozen_of_heap blk2 4)
    all_goals (go_wp2_with fail; go_meet; have hh := H2.step 1 ⟨a2, wn, k2⟩ (zeros wn) gr2 o2 b2; exact ⟨⟨a2, wn, k2⟩, rfl, hh.1, hh.2⟩)
  case rest =>
  obtain ⟨s2, hs2, H3, K3⟩ := hcut
  clear cA2 cB2 fA2 R2
  rename World => W3
  obtain ⟨g3, hg3⟩ : ∃ g3 : GA, g3 = g2.put 1 s2 := ⟨_, rfl⟩
  obtain ⟨X3, hX3⟩ : ∃ X3, X3 = putX X2 1 (zeros wn) := ⟨_, rfl⟩
  rw [← hg3, ← hX3] at H3
  have ew3 : g3.wd = wn := by rw [hg3]; exact ew2
  have Hg3 := Lib.hid hg3
  have HX3 := Lib.hid hX3
  have Hs2 := Lib.hid hs2
  have HK3 := K2.trans K3
  clear hg3 hX3 hs2 K3 H2 ew2 K2
  have K3 := HK3
  clear HK3
  go_wp2_with fail
  have cA3 : W3.cell? ⟨q, 5, none⟩ = some (.slice g3.u.ao g3.u.n g3.u.c) := H3.cell 5 _ rfl
  have cB3 : W3.cell? ⟨q, 2, none⟩ = some (.int .i64 wn) := by rw [← ew3]; exact H3.cell 2 _ rfl
  have fA3 := H3.frozen 5
  have R3 : ∀ W : World, W.heap = W3.heap → W.ownsRow 0 41 1 (.slice g3.u.ao g3.u.n g3.u.c) g3.u.n (X3 2) := fun W hW => own_keep (H3.own 2) fun _ _ => by rw [hW]
  go_cut [] from 47 to 58 (fun wx => ∃ s : SV, s.n = wn ∧ Gr Pt q (g3.put 2 s) (putX X3 2 (zeros wn)) wx ∧ Kept Pt W3 wx)
  case first =>
    go_region_with (go_at_call 29; refine (resized3 (.slice g3.u.ao g3.u.n g3.u.c) g3.u.n (X3 2) _ wn (by exact R3 _ rfl) (by omega) _ (by first | exact hmul | (rw [hmul]; exact hm3) | exact hm3 | rfl)).mono ?_; rintro e w2 ⟨a2, k2, rfl, o2, gr2, b2⟩; have gr2 : W3.grownBy w2 (g3.sl 2).v.ownBlock := ⟨gr2.os, gr2.tape, gr2.output, gr2.size, gr2.block⟩; have blk2 : w2.heap[q]? = some (.cells g3.cells 52 (0, 0)) := (gr2.block q H3.lt (fun e => (H3.away 2 q e.symm).2 rfl)).trans H3.blk; have q0 : w2.cell? ⟨q, 5, none⟩ = some (.slice g3.u.ao g3.u.n g3.u.c) := by { rw [Lib.cell_of_heap blk2]; rfl }; have q2 : w2.frozen? ⟨q, 5, none⟩ = false := Lib.frozen_of_heap blk2 5)
    all_goals (go_wp2_with fail; go_meet; have hh := H3.step 2 ⟨a2, wn, k2⟩ (zeros wn) gr2 o2 b2; exact ⟨⟨a2, wn, k2⟩, rfl, hh.1, hh.2⟩)
  case rest =>
  obtain ⟨s3, hs3, H4, K4⟩ := hcut
  clear cA3 cB3 fA3 R3
  rename World => W4
  obtain ⟨g4, hg4⟩ : ∃ g4 : GA, g4 = g3.put 2 s3 := ⟨_, rfl⟩
  obtain ⟨X4, hX4⟩ : ∃ X4, X4 = putX X3 2 (zeros wn) := ⟨_, rfl⟩
  rw [← hg4, ← hX4] at H4
  have ew4 : g4.wd = wn := by rw [hg4]; exact ew3
  have Hg4 := Lib.hid hg4
  have HX4 := Lib.hid hX4
  have Hs3 := Lib.hid hs3
  have HK4 := K3.trans K4
  clear hg4 hX4 hs3 K4 H3 ew3 K3
  have K4 := HK4
  clear HK4
  have ea : (g4.sl 1).n = wn := by rw [Hg4.out, GA.put_other _ _ _ _ (by decide), Hg3.out, GA.put_self]; exact Hs2.out
  have hX41 : X4 1 = zeros wn := by rw [HX4.out, putX_other _ _ _ _ (by decide), HX3.out, putX_self]
  have hX40 : X4 0 = zeros m := by rw [HX4.out, putX_other _ _ _ _ (by decide), HX3.out, putX_other _ _ _ _ (by decide), HX2.out, putX_self]
  have hX42 : X4 2 = zeros wn := by rw [HX4.out, putX_self]
  have hcw : cn ≤ 64 * wn := by have := Hwn.out; unfold wordsOf at this; omega
  go_wp2_with fail
  go_loopw [60] (fun i wr => ∃ k : Nat, k ≤ cn ∧ i = .int .i64 k ∧ Gr Pt q g4 (putX X4 1 (allL k wn)) wr ∧ Kept Pt w wr) (fun i _ => cn - (intOf i).toNat)
  case atStart => exact ⟨0, Nat.zero_le _, rfl, by rw [putX_id X4 1 _ (by rw [hX41, allL_zero])]; exact H4, K4⟩
  case round =>
    obtain ⟨k, hk, rfl, H5, K5⟩ := hrel
    clear H4 K4
    by_cases hlt : k < cn
    · obtain ⟨b, cap, es, d1, f1, hnc, hcm, hpk⟩ := H5.elt 1 (k / 64) (by rw [ea]; omega)
      rw [ea] at es hnc
      rw [putX_self, allL_getD _ _ _ (by omega), show k - 64 * (k / 64) = k % 64 by omega] at d1
      have cA : wr.cell? ⟨q, 4, none⟩ = some (.slice (some ⟨b, 0, none⟩) wn cap) := by
        have : wr.cell? ⟨q, 4, none⟩ = some (.slice (g4.sl 1).ao (g4.sl 1).n (g4.sl 1).c) := H5.cell 4 _ rfl
        rw [es] at this
        exact this
      have hpk2 := hpk (.int .u64 ((low (k % 64 + 1) : Nat) : Int))
      rw [putX_self, putX_putX, allL_succ] at hpk2
      have hor := or_low (k % 64) (by omega)
      obtain ⟨j, hj⟩ : ∃ j, j = k / 64 := ⟨_, rfl⟩
      obtain ⟨t, ht⟩ : ∃ t, t = k % 64 := ⟨_, rfl⟩
      rw [← hj] at d1 f1 hpk2
      rw [← ht] at d1 hor hpk2
      have hj1 : (k : Int) / 64 = j := by omega
      have ht1 : (k : Int) % 64 = t := by omega
      have hj2 : (0 : Int) ≤ j := by omega
      have hj3 : (j : Int) < wn := by omega
      have ht2 : (0 : Int) ≤ t := by omega
      have ht3 : (t : Int) < 64 := by omega
      have Hpk := Lib.hid hpk2
      clear hpk hpk2 hj ht H5
      go_wp2_with fail
      go_region
      go_wp2
      go_roundw
      case rel => exact ⟨k + 1, by omega, by go_num, Hpk.out.1.same rfl, (K5.trans Hpk.out.2).drewN 1⟩
      case measure => simp [intOf]; omega
    · have hke : k = cn := by omega
      subst hke
      have hX50 : Hid (putX X4 1 (allL k wn) 0 = zeros (rn * wn)) := by show _ = _; rw [putX_other _ _ _ _ (by decide), hX40, Hm.out]
      have hX51 : Hid (putX X4 1 (allL k wn) 1 = allL k wn) := putX_self _ _ _
      have hX52 : Hid (putX X4 1 (allL k wn) 2 = zeros wn) := by show _ = _; rw [putX_other _ _ _ _ (by decide), hX42]
      generalize putX X4 1 (allL k wn) = X5 at H5 hX50 hX51 hX52
      have c7 := H5.cell 7 _ rfl
      have f7 := H5.frozen 7
      have f10 := H5.frozen 10
      have esk : g4.sk = g.sk := by rw [Hg4.out, Hg3.out, Hg2.out, Hg1.out]; rfl
      have c10 : wr.cell? ⟨q, 10, none⟩ = some (.slice g.sk.ao g.sk.n g.sk.c) := by rw [← esk]; exact H5.cell 10 _ rfl
      have eg4 : g4 = { g with r := rn, c := k, wd := wn, h := s1, a := s2, u := s3 } := by rw [Hg4.out, Hg3.out, Hg2.out, Hg1.out]; rfl
      rw [eg4] at H5
      have H6 := H5.field (g' := { g with r := rn, c := k, wd := wn, h := s1, a := s2, u := s3, ld := rn }) 7 (.int .i64 rn) rfl rfl
      have hs1m : s1.n = rn * wn := by rw [Hs1.out, Hm.out]
      have Hs1m := Lib.hid hs1m
      clear hs1m esk eg4 hX41 hX40 hX42 hmul hm3
      by_cases hsc : g.sk.c < rn
      · obtain ⟨i0, hi, hz0, hz1, hz2⟩ := info_parts Try.info4
        obtain ⟨M, hM⟩ : ∃ M, M = madeCells (Value.bool false).cells ((rn : Int).toNat * i0.size) := ⟨_, rfl⟩
        have hMs : M = (List.replicate rn (Value.bool false)).toArray := by
          have e : (Value.bool false).cells = #[Value.bool false] := rfl
          rw [hM, hz1, e]
          apply Array.toList_inj.1
          rw [toList_madeCells_one]
          simp
        have hmk : ∀ W : World, (Instr.makeSlice 24 (.int .i64 (rn : Int)) (.int .i64 (rn : Int))).run Try.prog W = .ok (.slice (some ⟨W.heap.size, 0, none⟩) rn rn) (W.alloc (.cells M 4)) := fun W => by
          have h := run_makeSlice (P := Try.prog) W 24 4 i0 (Value.bool false) Try.underlying24 hi hz0 .i64 .i64 (rn : Int) (rn : Int) (by omega) (by omega) (by rw [hz1]; omega) (by rw [hz2]; omega) (by omega)
          rw [← hM] at h
          simpa using h
        have HMs := Lib.hid hMs
        have hsl := fun ao W => slice_sk ao rn rn rn (Nat.le_refl _) W
        have hsc1 : (g.sk.c : Int) < rn := by omega
        obtain ⟨v, hv⟩ : ∃ v, v = Value.slice (some ⟨wr.heap.size, 0, none⟩) rn rn := ⟨_, rfl⟩
        have H7 := (H6.field (g' := { g with r := rn, c := k, wd := wn, h := s1, a := s2, u := s3, ld := rn, sk := ⟨some ⟨wr.heap.size, 0, none⟩, rn, rn⟩ }) 10 v rfl (by rw [hv]; rfl)).field (g' := { g with r := rn, c := k, wd := wn, h := s1, a := s2, u := s3, ld := rn, sk := ⟨some ⟨wr.heap.size, 0, none⟩, rn, rn⟩ }) 10 v rfl (by rw [hv]; rfl)
        have K7 := ((K5.setCell (p := ⟨q, 7, none⟩) H5.pq (.int .i64 rn)).setCell (p := ⟨q, 10, none⟩) H5.pq v).setCell (p := ⟨q, 10, none⟩) H5.pq v
        have hn7 := heap_alloc_new (((wr.setCell ⟨q, 7, none⟩ (.int .i64 rn)).setCell ⟨q, 10, none⟩ v).setCell ⟨q, 10, none⟩ v) (.cells M 4)
        have e7 : (((wr.setCell ⟨q, 7, none⟩ (.int .i64 rn)).setCell ⟨q, 10, none⟩ v).setCell ⟨q, 10, none⟩ v).heap.size = wr.heap.size := by simp [World.setCell]
        rw [e7] at hn7
        have H8 := H7.alloc (.cells M 4)
        have K8 := K7.alloc Hinn.out (.cells M 4)
        rw [hv] at H8 K8 hn7
        have hqw := H5.lt
        have hne : ¬ q = wr.heap.size := by omega
        have HH8 := Lib.hid H8
        have HK8 := Lib.hid K8
        have Hn7 := Lib.hid hn7
        have Hws := Lib.hid K5.size
        have Hsc := Lib.hid hsc
        clear hM hMs H5 H6 H7 H8 K7 K8 hn7 e7 hv hsc
        go_wp2
        go_end0
        exact ⟨rfl, HK8.out, s1, s2, s3, _, X5, HH8.out, Hs1m.out, Hs2.out, Hs3.out, hX50.out, hX51.out, hX52.out, .inr ⟨Hsc.out, wr.heap.size, Hws.out, rfl, by rw [← HMs.out]; exact Hn7.out⟩⟩
      · have hsl := slice_sk g.sk.ao g.sk.n g.sk.c rn (by omega)
        have hsc1 : ¬ (g.sk.c : Int) < rn := by omega
        have H7 := H6.field (g' := { g with r := rn, c := k, wd := wn, h := s1, a := s2, u := s3, ld := rn, sk := ⟨g.sk.ao, rn, g.sk.c⟩ }) 10 (.slice g.sk.ao rn g.sk.c) rfl rfl
        have K7 := (K5.setCell (p := ⟨q, 7, none⟩) H5.pq (.int .i64 rn)).setCell (p := ⟨q, 10, none⟩) H5.pq (.slice g.sk.ao rn g.sk.c)
        have HH7 := Lib.hid H7
        have HK7 := Lib.hid K7
        have hsc2 : rn ≤ g.sk.c := by omega
        have Hsc2 := Lib.hid hsc2
        clear H5 H6 H7 K7 hsc hsc2
        go_wp2
        go_end0
        exact ⟨rfl, HK7.out, s1, s2, s3, _, X5, HH7.out, Hs1m.out, Hs2.out, Hs3.out, hX50.out, hX51.out, hX52.out, .inl ⟨Hsc2.out, rfl⟩⟩

end Go.Proofs.Qxb6617129a
