/-
  FnResetMakesAnEmptyGrid, at this dump.
-/
import Derived.Test.Qxb6617129aMk
import Derived.OwnWalk
namespace Go.Proofs.Qxb6617129a
open Go.RowKit

theorem Box.alive {B : Nat} {g : GA} {w w' : World} {n : Nat} (h : Box B g w) (b : Below n w w') (hn : B < n) : Box B g w' := h.keep (b.block B hn)
theorem GRd.below {B n : Nat} {g : GA} {x : GX} {w w' : World} (h : GRd (fun k => k < B) g x w) (b : Below n w w') (hn : B ≤ n) : GRd (fun k => k < B) g x w' :=
  h.kept ⟨b.os, b.tape, b.output, b.size, fun k hk => b.block k (Nat.lt_of_lt_of_le hk hn)⟩
theorem below_up {a b c : World} {n m : Nat} (h1 : Below n a b) (h2 : Below m b c) (h3 : n ≤ m) : Below n a c := h1.trans (h2.mono h3)

theorem build2 (g : GA) (w : World) : Calls Try.prog 9 #[g.val] w fun e w' => e = .returned (.pointer (some ⟨w.heap.size + 1, 0, none⟩)) ∧ Hid (w' = (w.alloc (.cells g.cells 26)).alloc (.cells g.cells 52)) :=
  (build g w).mono fun _ _ h => ⟨h.1, Lib.hid h.2⟩

theorem eqU2 (Pt Qt : Nat → Prop) (xs : List Value) (ao bo : Option Addr) (n m c d : Nat) (w : World) (h1 : Rs Pt IsU xs ao n c w) (h2 : Rs Qt IsU xs bo m d w) :
    Calls Try.prog 13 #[.slice ao n c, .slice bo m d] w fun e w' => e = .returned (.bool true) ∧ Hush w w' := by
  obtain rfl : n = m := h1.len.symm.trans h2.len
  exact eqU Pt Qt xs ao bo n c d w h1 h2
theorem eqI2 (Pt Qt : Nat → Prop) (xs : List Value) (ao bo : Option Addr) (n m c d : Nat) (w : World) (h1 : Rs Pt IsI xs ao n c w) (h2 : Rs Qt IsI xs bo m d w) :
    Calls Try.prog 14 #[.slice ao n c, .slice bo m d] w fun e w' => e = .returned (.bool true) ∧ Hush w w' := by
  obtain rfl : n = m := h1.len.symm.trans h2.len
  exact eqI Pt Qt xs ao bo n c d w h1 h2
theorem eqB2 (Pt Qt : Nat → Prop) (xs : List Value) (ao bo : Option Addr) (n m c d : Nat) (w : World) (h1 : Rs Pt IsB xs ao n c w) (h2 : Rs Qt IsB xs bo m d w) :
    Calls Try.prog 32 #[.slice ao n c, .slice bo m d] w fun e w' => e = .returned (.bool true) ∧ Hush w w' := by
  obtain rfl : n = m := h1.len.symm.trans h2.len
  exact eqB Pt Qt xs ao bo n c d w h1 h2
theorem own_cap {w : World} {E n : Nat} {s : SV} {xs : List Value} (h : w.ownsRow 0 E 1 s.v n xs) : s.c ≤ 9223372036854775807 := by
  obtain ⟨ao, c, e, r⟩ := rs_of_own (T := fun _ => True) h (fun _ _ => trivial)
  have e2 : s.c = c := by unfold SV.v at e; injection e
  rw [e2]
  exact r.max

set_option maxHeartbeats 600000 in
set_option maxRecDepth 100000 in
theorem law4 (g : GA) (x : GX) (r c : Int) (w : World) (h : GRd (fun k => k < w.heap.size) g x w) :
    Calls Try.prog 4 #[g.val, .int .i64 r, .int .i64 c] w fun e w' => e = .returned (.bool true) ∧ Below w.heap.size w w' := by
  have tys := h.tys
  have lsk := h.sk.len
  obtain ⟨B, hB⟩ : ∃ B, B = w.heap.size := ⟨_, rfl⟩
  rw [← hB] at h ⊢
  obtain ⟨W1, hW1⟩ : ∃ W1, W1 = w.alloc (.cells g.cells 26) := ⟨_, rfl⟩
  have bW : Below B w W1 := by rw [hW1, hB]; exact (Below.refl _ w).alloc (Nat.le_refl _) _
  have hz1 : B + 1 = W1.heap.size := by rw [hW1, hB]; simp
  have K1 : GRd (fun k => k < B) g x W1 := h.kept ((Kept.refl _ w).below (fun k hk => by rw [← hB]; exact hk) (hB ▸ bW))
  have S1 : Box B g W1 := by
    show W1.heap[B]? = _
    rw [hW1, hB]
    exact heap_alloc_new w _
  have HB := Lib.hid hB
  have HW1 := Lib.hid hW1
  clear hB hW1 h
  have C16 := Lib.hid (fun W => bytes16 g r c W)
  have C7 := Lib.hid (fun W => tooBig g W)
  have C10 := Lib.hid (fun W => cloneGrid g x W)
  have T := Lib.hid (fun w' (hb : Box B g w') => hb.twelve)
  unfold GA.val at C16 C7 C10 ⊢
  unfold GA.cells at HW1 C16 C7 ⊢
  go_enter Try.func4, Try.ntmps4
  go_wp2_with (go_at_call 16; rw [← HW1.out, ← HB.out]; refine (C16.out _).mono ?_; rintro e w2 ⟨⟨b1, rfl, _⟩, bl2⟩; refine Hid.out ?_)
  refine Lib.hid ?_
  have hz2 : B + 1 ≤ w2.heap.size := by rw [hz1]; exact bl2.size
  have b2 : Below B w w2 := below_up bW bl2 (by omega)
  have K2 := K1.below bl2 (by omega)
  have S2 := S1.alive bl2 (by omega)
  clear K1 S1 bl2 bW HW1 C16
  cases b1
  · go_wp2
    go_ret
    exact ⟨rfl, b2⟩
  obtain ⟨t0, t1, t2, t3, t4, t5, t6, t7, t8, t9, t10, t11⟩ := T.out w2 S2
  go_wp2_with (go_at_call 7; refine (C7.out _).mono ?_; rintro e w3 ⟨⟨b1, rfl, hsm⟩, bl3⟩; refine Hid.out ?_)
  refine Lib.hid ?_
  clear t0 t1 t2 t3 t4 t5 t6 t7 t8 t9 t10 t11
  have hz3 : B + 1 ≤ w3.heap.size := Nat.le_trans hz2 bl3.size
  have b3 : Below B w w3 := below_up b2 bl3 (by omega)
  have K3 := K2.below bl3 (by omega)
  have S3 := S2.alive bl3 (by omega)
  clear K2 S2 bl3 b2 hz2 C7 hz1
  cases b1
  case true =>
    go_wp2
    go_ret
    exact ⟨rfl, b3⟩
  have hs := hsm rfl
  clear hsm
  go_wp2_with (go_at_call 8; refine (resetFits r c _).mono ?_; rintro e w4 ⟨⟨b1, rfl, hft⟩, hw4⟩; refine Hid.out ?_)
  refine Lib.hid ?_
  replace hw4 := hw4.symm
  subst hw4
  cases b1
  · go_wp2
    go_ret
    exact ⟨rfl, b3⟩
  obtain ⟨rn, cn, rfl, rfl, hrn, hcn, hrw⟩ := hft rfl
  obtain ⟨wn, hwn⟩ : ∃ wn, wordsOf cn = wn := ⟨_, rfl⟩
  rw [hwn] at hrw
  have hwb : wn ≤ 1024 := by rw [← hwn]; unfold wordsOf; omega
  have HN := Lib.hid (And.intro hrn (And.intro hcn (And.intro hrw (And.intro hwn hwb))))
  clear hft hrn hcn hrw hwn hwb
  obtain ⟨t0, t1, t2, t3, t4, t5, t6, t7, t8, t9, t10, t11⟩ := T.out w3 S3
  unfold GA.cells at C10
  go_wp2_with (go_at_call 10; refine (C10.out _ (by exact K3.mono fun k hk => Nat.lt_of_lt_of_le hk (Nat.le_trans (Nat.le_succ B) hz3)) hs).mono ?_; rintro e w4 ⟨g', m1, m2, m3, rfl, cl, bl4⟩; refine Hid.out ?_)
  refine Lib.hid ?_
  clear t0 t1 t2 t3 t4 t5 t6 t7 t8 t9 t10 t11
  have hz4 : B + 1 ≤ w4.heap.size := Nat.le_trans hz3 bl4.size
  have b4 : Below B w w4 := below_up b3 bl4 (by omega)
  have K4 := K3.below bl4 (by omega)
  have S4 := S3.alive bl4 (by omega)
  clear K3 S3 bl4 b3 C10 hs
  have C9 := Lib.hid (fun W => build2 g' W)
  unfold GA.val GA.cells at C9
  go_wp2_with (go_at_call 9; refine (C9.out _).mono ?_; rintro e w5 ⟨rfl, hw5⟩; refine Hid.out ?_)
  refine Lib.hid ?_
  obtain ⟨G5, k5⟩ := cl.gr hw5.out
  have b5 : Below B w w5 := below_up b4 (Below.mono (B := w4.heap.size) (by rw [hw5.out]; exact ((Below.refl _ w4).alloc (Nat.le_refl _) _).alloc (by simp) _) (Nat.le_refl _)) (by omega)
  have b45 : Below w4.heap.size w4 w5 := by rw [hw5.out]; exact ((Below.refl _ w4).alloc (Nat.le_refl _) _).alloc (by simp) _
  have K5 := K4.below b45 (by omega)
  have S5 := S4.alive b45 (by omega)
  clear hw5 C9 K4 S4 b4
  obtain ⟨q, hq⟩ : ∃ q, q = w4.heap.size + 1 := ⟨_, rfl⟩
  rw [← hq] at G5 ⊢
  have Hq := Lib.hid hq
  clear hq
  go_wp2_with (go_at_call 11; refine (reset (PtC w3.heap.size m3 w4.heap.size) q g' (X3 x) rn cn wn _ G5 HN.out.1 HN.out.2.1 HN.out.2.2.2.1 HN.out.2.2.1 (own_cap cl.sk.own)).mono ?_; rintro e w6 ⟨rfl, kp6, RS⟩; refine Hid.out ?_)
  refine Lib.hid ?_
  obtain ⟨⟨o1, n1, c1⟩, ⟨o2, n2, c2⟩, ⟨o3, n3, c3⟩, ⟨o4, n4, c4⟩, X', G6, e1, e2, e3, x0, x1, x2, SK⟩ := RS
  have k46 := k5.trans kp6
  have hX : ∀ i, ∀ v ∈ X' i, IsU v := fun i => by
    match i with
    | 0 => rw [x0]; exact zeros_isU _
    | 1 => rw [x1]; exact allL_isU _ _
    | 2 => rw [x2]; exact zeros_isU _
  have R6 := cl.after tys k46 G6 hX rfl rfl rfl rfl
  rw [x0, x1, x2] at R6
  obtain ⟨e4, F6⟩ := cl.flags tys lsk k46 SK HN.out.1 G6.inn
  have B36 : ∀ k, k ≤ B → PtC w3.heap.size m3 w4.heap.size k := fun k hk => Or.inl (by omega)
  have hz6 : B + 1 ≤ w6.heap.size := by have := kp6.size; have := b45.size; omega
  have b6 : Below B w w6 := b5.trans (kp6.toBelow fun k hk => B36 k (Nat.le_of_lt hk))
  have K6 : GRd (fun k => k < B) g x w6 := K5.kept (kp6.mono fun k hk => B36 k (Nat.le_of_lt hk))
  have S6 : Box B g w6 := S5.keep (kp6.block B (B36 B (Nat.le_refl _)))
  have Q6 := Lib.hid G6.blk
  clear SK hX x0 x1 x2 k46 kp6 k5 b45 G6 G5 K5 S5 b5 B36 X' hz4 hz3
  have e1' := e1.symm
  have e2' := e2.symm
  have e3' := e3.symm
  have e4' := e4.symm
  clear e1 e2 e3 e4
  dsimp only at e1' e2' e3' e4' R6 F6
  subst e2'
  subst e3'
  subst e4'
  rw [e1'] at R6
  have C12 := Lib.hid (fun W hW => read _ q W (Eq.trans hW Q6.out))
  simp only [GA.val, GA.cells] at C12
  go_wp2_with (go_at_call 12; refine (C12.out _ (by exact rfl)).mono ?_; rintro e w7 ⟨rfl, bl7⟩; refine Hid.out ?_)
  refine Lib.hid ?_
  have hz7 : w6.heap.size ≤ w7.heap.size := bl7.size
  have b7 : Below B w w7 := below_up b6 bl7 (by omega)
  have K7 := K6.below bl7 (by omega)
  have S7 := S6.alive bl7 (by omega)
  have R7 := R6.kept ((Kept.refl _ w6).below (fun _ hk => hk) bl7)
  have F7 := F6.kept ((Kept.refl _ w6).below (fun _ hk => hk) bl7)
  clear bl7 C12 Q6 b6 K6 S6 R6 F6
  obtain ⟨D, hD⟩ : ∃ D, D = w7.heap.size := ⟨_, rfl⟩
  obtain ⟨W8, hW8⟩ : ∃ W8, W8 = w7.alloc (.cells #[.int .i64 rn, .int .i64 cn, .int .i64 wn, .slice o1 n1 c1, .slice o2 wn c2, .slice o3 wn c3, .slice g'.ce.ao g'.ce.n g'.ce.c, .int .i64 rn, .slice g'.ch.ao g'.ch.n g'.ch.c, .slice g'.co.ao g'.co.n g'.co.c, .slice o4 rn c4, .slice g'.ss.ao g'.ss.n g'.ss.c] 26) := ⟨_, rfl⟩
  have al : Below D w7 W8 := by rw [hW8, hD]; exact (Below.refl _ w7).alloc (Nat.le_refl _) _
  have b8 : Below B w W8 := below_up b7 al (by omega)
  have K8 := K7.below al (by omega)
  have S8 := S7.alive al (by omega)
  have R8 := R7.kept ((Kept.refl _ w7).below (fun _ hk => Nat.lt_of_lt_of_le hk hz7) (hD ▸ al))
  have F8 := F7.kept ((Kept.refl _ w7).below (fun _ hk => Nat.lt_of_lt_of_le hk hz7) (hD ▸ al))
  have D8 : W8.heap[D]? = some (.cells #[.int .i64 rn, .int .i64 cn, .int .i64 wn, .slice o1 n1 c1, .slice o2 wn c2, .slice o3 wn c3, .slice g'.ce.ao g'.ce.n g'.ce.c, .int .i64 rn, .slice g'.ch.ao g'.ch.n g'.ch.c, .slice g'.co.ao g'.co.n g'.co.c, .slice o4 rn c4, .slice g'.ss.ao g'.ss.n g'.ss.c] 26 (0, 0)) := by
    rw [hW8, hD]
    exact heap_alloc_new w7 _
  have dc := Lib.hid (Lib.cell_of_heap D8)
  have HD := Lib.hid hD
  have HW8 := Lib.hid hW8
  clear hD hW8 al b7 K7 S7 R7 F7 D8 Hq
  have C17 := Lib.hid (fun W => wordsFor cn HN.out.2.1 W)
  rw [HN.out.2.2.2.1] at C17
  go_wp2_with (go_at_call 17; rw [← HW8.out, ← HD.out]; refine (C17.out _).mono ?_; rintro e w9 ⟨rfl, hw9⟩; refine Hid.out ?_)
  refine Lib.hid ?_
  replace hw9 := hw9.symm
  subst hw9
  have hmul : IntKind.i64.wrap ((rn : Int) * (wn : Int)) = (n1 : Int) := by
    have h1 := HN.out.2.2.1
    have h2 : ((rn * wn : Nat) : Int) = (rn : Int) * (wn : Int) := Int.natCast_mul rn wn
    rw [e1'] at h1
    rw [← h2, e1']
    exact IntWalk.i64_in _ ⟨by omega, by omega⟩
  have u0 := dc.out 0
  have u1 := dc.out 1
  have u2 := dc.out 2
  have u3 := dc.out 3
  have u4 := dc.out 4
  have u5 := dc.out 5
  have u7 := dc.out 7
  have u10 := dc.out 10
  simp only [List.getElem?_toArray, List.getElem?_cons_zero, List.getElem?_cons_succ] at u0 u1 u2 u3 u4 u5 u7 u10
  have A1 := Lib.hid (allZero _ n1 c1 o1 W8 R8.h)
  have A2 := Lib.hid (allZero _ wn c3 o3 W8 R8.u)
  go_wp2_with (first
    | (go_at_call_of 18 (Value.slice o1 n1 c1); refine A1.out.mono ?_; rintro e w9 ⟨rfl, hw9⟩; replace hw9 := hw9.symm; subst hw9)
    | (go_at_call_of 18 (Value.slice o3 wn c3); refine A2.out.mono ?_; rintro e w9 ⟨rfl, hw9⟩; replace hw9 := hw9.symm; subst hw9))
  clear u0 u1 u2 u3 u5 u7 A1 A2 hmul
  have hwb := HN.out.2.2.2.2
  have hnc := R8.a.le
  dsimp only at hnc
  go_loopw [10] (fun i wr => ∃ k : Nat, k ≤ wn ∧ i = .int .i64 k ∧ Hush W8 wr) (fun i _ => wn - (intOf i).toNat)
  case atStart => exact ⟨0, Nat.zero_le _, rfl, Hush.refl _⟩
  case round =>
    obtain ⟨k, hk, rfl, hq⟩ := hrel
    by_cases hlt : k < wn
    · obtain ⟨ga, oa, eo, p, f⟩ := R8.a.at_ (by show 0 < wn; omega)
      dsimp only at eo f
      subst eo
      have d1 := (hq.cell _).trans (f k hlt)
      rw [allL_getD cn wn k hlt] at d1
      have d2 := (hq.cell _).trans u4
      have b1 : (k : Int) < wn := by omega
      have b0 : (0 : Int) ≤ k := by omega
      have hkc : 1 ≤ cn - 64 * k := by
        have := HN.out.2.2.2.1
        unfold wordsOf at this
        omega
      have sub : wrap64 ((cn : Int) - 64 * (k : Int)) = ((cn - 64 * k : Nat) : Int) := by
        have := HN.out.2.1
        unfold wrap64
        omega
      obtain ⟨m, hm⟩ : ∃ m : Nat, m = cn - 64 * k := ⟨_, rfl⟩
      rw [← hm] at d1 sub hkc
      have C19 := Lib.hid (fun W => lowBits m hkc W)
      clear f hm hkc
      go_wp2
      go_quiet ((go_at_call 19; (try rw [sub]); refine Calls.quiet_of_same (C19.out _)))
      go_wp2
      go_roundw
      case rel => exact ⟨k + 1, by omega, by go_num, hq.drewN _⟩
      case measure => simp [intOf]; omega
    · have d2 := (hq.cell _).trans u10
      go_wp2
      clear d2 u4 hnc hlt hk
      have hrn := HN.out.1
      have hnc := F8.le
      go_loopw [11, 12] (fun i _ wr2 => ∃ k : Nat, k ≤ rn ∧ i = .int .i64 k ∧ Hush W8 wr2) (fun i _ _ => rn - (intOf i).toNat)
      case atStart => exact ⟨0, Nat.zero_le _, rfl, hq⟩
      case round =>
        obtain ⟨k, hk, rfl, hq⟩ := hrel
        by_cases hlt : k < rn
        · obtain ⟨ga, oa, eo, p, f⟩ := F8.at_ (by omega)
          subst eo
          have d1 := (hq.cell _).trans (f k hlt)
          have d2 := (hq.cell _).trans u10
          have d3 := (hq.cell _).trans (T.out W8 S8).2.2.2.2.2.2.2.2.2.2.1
          have b1 : (k : Int) < rn := by omega
          have b0 : (0 : Int) ≤ k := by omega
          have hy1 := F8.elt hlt
          clear f
          by_cases hge : rn ≤ g.sk.n
          · obtain ⟨gb, ob, eb, p2, f2⟩ := K8.sk.at_ (by omega)
            have d4 := (hq.cell _).trans (f2 k (by omega))
            have ek : (skL rn x.sk).getD k undef = x.sk.getD k undef := by
              unfold skL
              rw [if_pos (by omega)]
              simp [List.getD, hlt]
            rw [ek] at d1 hy1
            obtain ⟨y, hy⟩ : ∃ y, y = x.sk.getD k undef := ⟨_, rfl⟩
            rw [← hy] at d1 d4 hy1
            obtain ⟨z, rfl⟩ := hy1
            rw [eb] at d3
            have hge2 : (rn : Int) ≤ g.sk.n := by omega
            have b2 : (k : Int) < g.sk.n := by omega
            have hcs := K8.sk.le
            clear f2 hy ek hge eb
            go_wp2
            go_roundw
            case rel => exact ⟨k + 1, by omega, by go_num, hq⟩
            case measure => simp [intOf]; omega
          · have ek : (skL rn x.sk).getD k undef = .bool false := by
              unfold skL
              rw [if_neg (by omega)]
              simp [List.getD, hlt]
            rw [ek] at d1
            have hge2 : ¬ (rn : Int) ≤ g.sk.n := by omega
            clear hy1 ek hge
            go_wp2
            go_roundw
            case rel => exact ⟨k + 1, by omega, by go_num, hq⟩
            case measure => simp [intOf]; omega
        · have t6 := (T.out W8 S8).2.2.2.2.2.2.1
          have t8 := (T.out W8 S8).2.2.2.2.2.2.2.2.1
          have t9 := (T.out W8 S8).2.2.2.2.2.2.2.2.2.1
          have t11 := (T.out W8 S8).2.2.2.2.2.2.2.2.2.2.2
          have u6 := (dc.out 6)
          have u8 := (dc.out 8)
          have u9 := (dc.out 9)
          have u11 := (dc.out 11)
          simp only [List.getElem?_toArray, List.getElem?_cons_zero, List.getElem?_cons_succ] at u6 u8 u9 u11
          obtain ⟨nw, rfl⟩ := hq
          have E1 := Lib.hid (fun W (hW : Hush W8 W) => eqU2 _ _ x.ce _ _ _ _ _ _ W (R8.ce.hush hW) (K8.ce.hush hW))
          have E2 := Lib.hid (fun W (hW : Hush W8 W) => eqI2 _ _ x.ch _ _ _ _ _ _ W (R8.ch.hush hW) (K8.ch.hush hW))
          have E3 := Lib.hid (fun W (hW : Hush W8 W) => eqU2 _ _ x.co _ _ _ _ _ _ W (R8.co.hush hW) (K8.co.hush hW))
          have E4 := Lib.hid (fun W (hW : Hush W8 W) => eqI2 _ _ x.ss _ _ _ _ _ _ W (R8.ss.hush hW) (K8.ss.hush hW))
          clear u10 hnc hrn hwb
          go_wp2_with (first
            | (go_at_call_of 13 (Value.slice g'.ce.ao g'.ce.n g'.ce.c); refine (E1.out _ (by exact ⟨_, rfl⟩)).mono ?_; rintro e w9 ⟨rfl, hw9⟩; replace hw9 := Hush.trans ⟨_, rfl⟩ hw9; obtain ⟨nw, rfl⟩ := hw9)
            | (go_at_call_of 14 (Value.slice g'.ch.ao g'.ch.n g'.ch.c); refine (E2.out _ (by exact ⟨_, rfl⟩)).mono ?_; rintro e w9 ⟨rfl, hw9⟩; replace hw9 := Hush.trans ⟨_, rfl⟩ hw9; obtain ⟨nw, rfl⟩ := hw9)
            | (go_at_call_of 13 (Value.slice g'.co.ao g'.co.n g'.co.c); refine (E3.out _ (by exact ⟨_, rfl⟩)).mono ?_; rintro e w9 ⟨rfl, hw9⟩; replace hw9 := Hush.trans ⟨_, rfl⟩ hw9; obtain ⟨nw, rfl⟩ := hw9)
            | (go_at_call_of 14 (Value.slice g'.ss.ao g'.ss.n g'.ss.c); refine (E4.out _ (by exact ⟨_, rfl⟩)).mono ?_; rintro e w9 ⟨rfl, hw9⟩; replace hw9 := Hush.trans ⟨_, rfl⟩ hw9; obtain ⟨nw, rfl⟩ := hw9))
          go_ret
          exact ⟨rfl, b8.trans ⟨rfl, rfl, rfl, Nat.le_refl _, fun _ _ => rfl⟩⟩

end Go.Proofs.Qxb6617129a
