/-
  FnResetForgetsTheEarlierSize, at this dump.
-/
import Derived.Test.Qxb6617129aEmp
import Derived.Test.Qxb6617129aCnt
namespace Go.Proofs.Qxb6617129a
open Go.RowKit

theorem Kept.toBelowC {B m e n : Nat} {w w' : World} (h : Kept (PtC B m e) w w') (hn : n ≤ B) : Below n w w' := h.toBelow fun _ hk => Or.inl (Nat.lt_of_lt_of_le hk hn)
theorem GR7.below {B n : Nat} {g : GA} {x : GX} {w w' : World} (h : GR7 (fun k => k < B) g x w) (b : Below n w w') (hn : B ≤ n) : GR7 (fun k => k < B) g x w' :=
  h.kept ⟨b.os, b.tape, b.output, b.size, fun k hk => b.block k (Nat.lt_of_lt_of_le hk hn)⟩
theorem sk_cap {rn : Nat} {s s' : SV} {w w' : World} (h : SkOf rn s s' w w') (hs : s.c ≤ 9223372036854775807) (hr : rn ≤ 65536) : s'.c ≤ 9223372036854775807 ∧ s'.n = rn := by
  rcases h with ⟨_, rfl⟩ | ⟨_, b, _, rfl, _⟩
  · exact ⟨hs, rfl⟩
  · exact ⟨Nat.le_trans hr (by omega), rfl⟩
theorem built_below {g : GA} {w w' : World} (h : w' = (w.alloc (.cells g.cells 26)).alloc (.cells g.cells 52)) : Below w.heap.size w w' := by
  rw [h]; exact ((Below.refl _ w).alloc (Nat.le_refl _) _).alloc (by simp) _
theorem empty_isU {X : Fin 3 → List Value} {rn wn cn : Nat} (x0 : X 0 = zeros (rn * wn)) (x1 : X 1 = allL cn wn) (x2 : X 2 = zeros wn) : ∀ i, ∀ v ∈ X i, IsU v := fun i => by
  match i with
  | 0 => rw [x0]; exact zeros_isU _
  | 1 => rw [x1]; exact allL_isU _ _
  | 2 => rw [x2]; exact zeros_isU _

set_option maxHeartbeats 1600000 in
set_option maxRecDepth 100000 in
theorem law3 (g : GA) (x : GX) (r1 c1 r2 c2 : Int) (w : World) (h : GRd (fun k => k < w.heap.size) g x w) :
    Calls Try.prog 3 #[g.val, .int .i64 r1, .int .i64 c1, .int .i64 r2, .int .i64 c2] w fun e w' => e = .returned (.bool true) ∧ Below w.heap.size w w' := by
  have tys := h.tys
  obtain ⟨B, hB⟩ : ∃ B, B = w.heap.size := ⟨_, rfl⟩
  rw [← hB] at h ⊢
  obtain ⟨W1, hW1⟩ : ∃ W1, W1 = w.alloc (.cells g.cells 26) := ⟨_, rfl⟩
  have bW : Below B w W1 := by rw [hW1, hB]; exact (Below.refl _ w).alloc (Nat.le_refl _) _
  have hz1 : B + 1 ≤ W1.heap.size := by rw [hW1, hB]; simp
  have K1 : GRd (fun k => k < B) g x W1 := h.kept ((Kept.refl _ w).below (fun k hk => by rw [← hB]; exact hk) (hB ▸ bW))
  have S1 : Box B g W1 := by
    show W1.heap[B]? = _
    rw [hW1, hB]
    exact heap_alloc_new w _
  have HB := Lib.hid hB
  have HW1 := Lib.hid hW1
  clear hB hW1 h
  have C6 := Lib.hid (fun W => bytes6 g r1 c1 r2 c2 W)
  have C7 := Lib.hid (fun W => tooBig g W)
  have C10 := Lib.hid (fun W => cloneGrid g x W)
  have T := Lib.hid (fun w' (hb : Box B g w') => hb.twelve)
  unfold GA.val at C6 C7 C10 ⊢
  unfold GA.cells at HW1 C6 C7 ⊢
  go_enter Try.func3, Try.ntmps3
  go_wp2_with (go_at_call 6; rw [← HW1.out, ← HB.out]; refine (C6.out _).mono ?_; rintro e w2 ⟨⟨b1, rfl, _⟩, bl2⟩; refine Hid.out ?_)
  refine Lib.hid ?_
  have b2 : Below (B + 1) W1 w2 := bl2.mono hz1
  clear bl2 HW1 C6
  cases b1
  · go_wp2
    go_ret
    exact ⟨rfl, bW.trans (b2.mono (by omega))⟩
  obtain ⟨t0, t1, t2, t3, t4, t5, t6, t7, t8, t9, t10, t11⟩ := T.out w2 (S1.alive b2 (by omega))
  go_wp2_with (go_at_call 7; refine (C7.out _).mono ?_; rintro e w3 ⟨⟨b1, rfl, hsm⟩, bl3⟩; refine Hid.out ?_)
  refine Lib.hid ?_
  clear t0 t1 t2 t3 t4 t5 t6 t7 t8 t9 t10 t11
  have b3 : Below (B + 1) W1 w3 := below_up b2 bl3 (Nat.le_trans hz1 b2.size)
  clear bl3 b2 C7
  cases b1
  case true =>
    go_wp2
    go_ret
    exact ⟨rfl, bW.trans (b3.mono (by omega))⟩
  have hs := hsm rfl
  clear hsm
  go_wp2_with (go_at_call 8; refine (resetFits r1 c1 _).mono ?_; rintro e w4 ⟨⟨b1, rfl, hft⟩, hw4⟩; refine Hid.out ?_)
  refine Lib.hid ?_
  replace hw4 := hw4.symm
  subst hw4
  cases b1
  · go_wp2
    go_ret
    exact ⟨rfl, bW.trans (b3.mono (by omega))⟩
  obtain ⟨ra, ca, rfl, rfl, hra, hca, hrwa⟩ := hft rfl
  clear hft
  go_wp2_with (go_at_call 8; refine (resetFits r2 c2 _).mono ?_; rintro e w4 ⟨⟨b1, rfl, hft⟩, hw4⟩; refine Hid.out ?_)
  refine Lib.hid ?_
  replace hw4 := hw4.symm
  subst hw4
  cases b1
  · go_wp2
    go_ret
    exact ⟨rfl, bW.trans (b3.mono (by omega))⟩
  obtain ⟨rn, cn, rfl, rfl, hrn, hcn, hrw⟩ := hft rfl
  obtain ⟨wn, hwn⟩ : ∃ wn, wordsOf cn = wn := ⟨_, rfl⟩
  rw [hwn] at hrw
  have HA := Lib.hid (And.intro hra (And.intro hca hrwa))
  have HN := Lib.hid (And.intro hrn (And.intro hcn (And.intro hrw hwn)))
  clear hft hrn hcn hrw hwn hra hca hrwa
  unfold GA.cells at C10
  have S3 := S1.alive b3 (by omega)
  have K3 := K1.below b3 (by omega)
  obtain ⟨t0, t1, t2, t3, t4, t5, t6, t7, t8, t9, t10, t11⟩ := T.out w3 S3
  have hz3 : B + 1 ≤ w3.heap.size := Nat.le_trans hz1 b3.size
  go_wp2_with (go_at_call 10; refine (C10.out _ (by exact K3.mono fun k hk => Nat.lt_of_lt_of_le hk (Nat.le_trans (Nat.le_succ B) hz3)) hs).mono ?_; rintro e w4 ⟨ga, m1a, m2a, m3a, rfl, cla, bl4⟩; refine Hid.out ?_)
  refine Lib.hid ?_
  clear t0 t1 t2 t3 t4 t5 t6 t7 t8 t9 t10 t11 S3 K3
  have b4 : Below (B + 1) W1 w4 := below_up b3 bl4 hz3
  have hz4 : w3.heap.size ≤ w4.heap.size := bl4.size
  clear bl4 b3
  have C9 := Lib.hid (fun W => build2 ga W)
  unfold GA.val GA.cells at C9
  go_wp2_with (go_at_call 9; refine (C9.out _).mono ?_; rintro e w5 ⟨rfl, hw5⟩; refine Hid.out ?_)
  refine Lib.hid ?_
  obtain ⟨G5, k5⟩ := cla.gr hw5.out
  have b5 : Below (B + 1) W1 w5 := below_up b4 (built_below hw5.out) (by omega)
  clear hw5 C9 b4
  obtain ⟨qa, hqa⟩ : ∃ q, q = w4.heap.size + 1 := ⟨_, rfl⟩
  rw [← hqa] at G5 ⊢
  clear hqa
  go_wp2_with (go_at_call 11; refine (reset (PtC w3.heap.size m3a w4.heap.size) qa ga (X3 x) ra ca (wordsOf ca) _ G5 HA.out.1 HA.out.2.1 rfl HA.out.2.2 (own_cap cla.sk.own)).mono ?_; rintro e w6 ⟨rfl, kp6, RS⟩; refine Hid.out ?_)
  refine Lib.hid ?_
  obtain ⟨s1, s2, s3, s4, Xa, G6, f1, f2, f3, f4, f5, f6, SK6⟩ := RS
  clear f1 f2 f3 f4 f5 f6
  have b6 : Below (B + 1) W1 w6 := b5.trans (kp6.toBelowC hz3)
  have cap6 := (sk_cap SK6 (own_cap cla.sk.own) HA.out.1).1
  have k6 := k5.trans kp6
  clear SK6 kp6 k5 b5 G5
  go_wp2_with (go_at_call 11; refine (reset (PtC w3.heap.size m3a w4.heap.size) qa _ Xa rn cn wn _ G6 HN.out.1 HN.out.2.1 HN.out.2.2.2 HN.out.2.2.1 (by exact cap6)).mono ?_; rintro e w7 ⟨rfl, kp7, RS⟩; refine Hid.out ?_)
  refine Lib.hid ?_
  obtain ⟨⟨o1a, n1a, c1a⟩, ⟨o2a, n2a, c2a⟩, ⟨o3a, n3a, c3a⟩, ⟨o4a, n4a, c4a⟩, X', G7, e1, e2, e3, x0, x1, x2, SK7⟩ := RS
  have b7 : Below (B + 1) W1 w7 := b6.trans (kp7.toBelowC hz3)
  have e4 := (sk_cap SK7 (by exact cap6) HN.out.1).2
  have R7 := cla.after tys (k6.trans kp7) G7 (empty_isU x0 x1 x2) rfl rfl rfl rfl
  rw [x0, x1, x2] at R7
  have Q7 := Lib.hid G7.blk
  clear SK7 x0 x1 x2 k6 kp7 G7 G6 b6 X' cap6 hz4
  have e1' := e1.symm
  have e2' := e2.symm
  have e3' := e3.symm
  have e4' := e4.symm
  clear e1 e2 e3 e4 Xa s1 s2 s3 s4
  dsimp only at e1' e2' e3' e4' R7
  subst e2'
  subst e3'
  subst e4'
  clear e1'
  have C12 := Lib.hid (fun W hW => read _ qa W (Eq.trans hW Q7.out))
  simp only [GA.val, GA.cells] at C12
  go_wp2_with (go_at_call 12; refine (C12.out _ (by exact rfl)).mono ?_; rintro e w8 ⟨rfl, bl8⟩; refine Hid.out ?_)
  refine Lib.hid ?_
  have hz7 : B + 1 ≤ w7.heap.size := Nat.le_trans hz1 b7.size
  have hz8 : w7.heap.size ≤ w8.heap.size := bl8.size
  have b8 : Below (B + 1) W1 w8 := below_up b7 bl8 hz7
  have R8 := R7.below bl8 (Nat.le_refl _)
  clear bl8 C12 Q7 b7 R7
  obtain ⟨D, hD⟩ : ∃ D, D = w8.heap.size := ⟨_, rfl⟩
  obtain ⟨W9, hW9⟩ : ∃ W9, W9 = w8.alloc (.cells #[.int .i64 rn, .int .i64 cn, .int .i64 wn, .slice o1a n1a c1a, .slice o2a wn c2a, .slice o3a wn c3a, .slice ga.ce.ao ga.ce.n ga.ce.c, .int .i64 rn, .slice ga.ch.ao ga.ch.n ga.ch.c, .slice ga.co.ao ga.co.n ga.co.c, .slice o4a rn c4a, .slice ga.ss.ao ga.ss.n ga.ss.c] 26) := ⟨_, rfl⟩
  have al : Below D w8 W9 := by rw [hW9, hD]; exact (Below.refl _ w8).alloc (Nat.le_refl _) _
  have b9 : Below (B + 1) W1 W9 := below_up b8 al (by omega)
  have R9 := R8.below al (by omega)
  have D9 : W9.heap[D]? = some (.cells #[.int .i64 rn, .int .i64 cn, .int .i64 wn, .slice o1a n1a c1a, .slice o2a wn c2a, .slice o3a wn c3a, .slice ga.ce.ao ga.ce.n ga.ce.c, .int .i64 rn, .slice ga.ch.ao ga.ch.n ga.ch.c, .slice ga.co.ao ga.co.n ga.co.c, .slice o4a rn c4a, .slice ga.ss.ao ga.ss.n ga.ss.c] 26 (0, 0)) := by
    rw [hW9, hD]
    exact heap_alloc_new w8 _
  obtain ⟨N9, hN9⟩ : ∃ N, N = W9.heap.size := ⟨_, rfl⟩
  have zD : D < N9 := by rw [hN9]; exact Lib.lt_of_heap D9
  have z7 : w7.heap.size ≤ N9 := by rw [← hD] at hz8; omega
  have HD := Lib.hid hD
  have HW9 := Lib.hid hW9
  have S9 := S1.alive b9 (by omega)
  have K9 := K1.below b9 (by omega)
  have hz9 : B + 1 ≤ N9 := by omega
  have Bx := Lib.hid D9
  clear hD hW9 al R8 b8 D9
  have C10b := Lib.hid (fun _ : Unit => C10.out W9 (K9.mono fun k hk => Nat.lt_of_lt_of_le hk (by omega)) hs)
  clear C10 K9
  rw [← hN9] at C10b
  have tt := T.out W9 S9
  rw [HW9.out] at tt
  obtain ⟨t0, t1, t2, t3, t4, t5, t6, t7, t8, t9, t10, t11⟩ := tt
  clear hN9
  go_wp2_with (go_at_call 10; rw [← HW9.out, ← HD.out]; refine (C10b.out ()).mono ?_; rintro e w10 ⟨gb, m1b, m2b, m3b, rfl, clb, bl10⟩; refine Hid.out ?_)
  refine Lib.hid ?_
  clear t0 t1 t2 t3 t4 t5 t6 t7 t8 t9 t10 t11 S9 C10b HW9 HD
  have bq10 : Below N9 W9 w10 := bl10
  have hN10 : N9 ≤ w10.heap.size := by have := clb.o1; have := clb.o2; have := clb.o3; have := clb.o4; omega
  clear bl10 hs
  have C9 := Lib.hid (fun W => build2 gb W)
  unfold GA.val GA.cells at C9
  go_wp2_with (go_at_call 9; refine (C9.out _).mono ?_; rintro e w11 ⟨rfl, hw11⟩; refine Hid.out ?_)
  refine Lib.hid ?_
  obtain ⟨G11, k11⟩ := clb.gr hw11.out
  have bq11 : Below N9 W9 w11 := below_up bq10 (built_below hw11.out) hN10
  clear hw11 C9 bq10
  obtain ⟨qb, hqb⟩ : ∃ q, q = w10.heap.size + 1 := ⟨_, rfl⟩
  rw [← hqb] at G11 ⊢
  clear hqb
  go_wp2_with (go_at_call 11; refine (reset (PtC N9 m3b w10.heap.size) qb gb (X3 x) rn cn wn _ G11 HN.out.1 HN.out.2.1 HN.out.2.2.2 HN.out.2.2.1 (own_cap clb.sk.own)).mono ?_; rintro e w12 ⟨rfl, kp12, RS⟩; refine Hid.out ?_)
  refine Lib.hid ?_
  obtain ⟨⟨o1b, n1b, c1b⟩, ⟨o2b, n2b, c2b⟩, ⟨o3b, n3b, c3b⟩, ⟨o4b, n4b, c4b⟩, X', G12, e1, e2, e3, x0, x1, x2, SK12⟩ := RS
  have bq12 : Below N9 W9 w12 := bq11.trans (kp12.toBelowC (Nat.le_refl _))
  have e4 := (sk_cap SK12 (own_cap clb.sk.own) HN.out.1).2
  have R12 := clb.after tys (k11.trans kp12) G12 (empty_isU x0 x1 x2) rfl rfl rfl rfl
  rw [x0, x1, x2] at R12
  have Q12 := Lib.hid G12.blk
  have hN12 : N9 ≤ w12.heap.size := by have := bq12.size; have := Nat.lt_of_lt_of_le (Nat.lt_succ_self 0) (Nat.le_refl 1); have := G12.inn; have := kp12.size; have := k11.size; omega
  clear SK12 x0 x1 x2 k11 kp12 G12 G11 bq11 X'
  have f1' := e1.symm
  have f2' := e2.symm
  have f3' := e3.symm
  have f4' := e4.symm
  clear e1 e2 e3 e4
  dsimp only at f1' f2' f3' f4' R12
  subst f2'
  subst f3'
  subst f4'
  clear f1'
  have C12 := Lib.hid (fun W hW => read _ qb W (Eq.trans hW Q12.out))
  simp only [GA.val, GA.cells] at C12
  go_wp2_with (go_at_call 12; refine (C12.out _ (by exact rfl)).mono ?_; rintro e w13 ⟨rfl, bl13⟩; refine Hid.out ?_)
  refine Lib.hid ?_
  have hz13 : w12.heap.size ≤ w13.heap.size := bl13.size
  have bq13 : Below N9 W9 w13 := below_up bq12 bl13 hN12
  have R13 := R12.below bl13 (Nat.le_refl _)
  clear bl13 C12 Q12 bq12 R12
  obtain ⟨E, hE⟩ : ∃ E, E = w13.heap.size := ⟨_, rfl⟩
  obtain ⟨W14, hW14⟩ : ∃ W14, W14 = w13.alloc (.cells #[.int .i64 rn, .int .i64 cn, .int .i64 wn, .slice o1b n1b c1b, .slice o2b wn c2b, .slice o3b wn c3b, .slice gb.ce.ao gb.ce.n gb.ce.c, .int .i64 rn, .slice gb.ch.ao gb.ch.n gb.ch.c, .slice gb.co.ao gb.co.n gb.co.c, .slice o4b rn c4b, .slice gb.ss.ao gb.ss.n gb.ss.c] 26) := ⟨_, rfl⟩
  have al : Below E w13 W14 := by rw [hW14, hE]; exact (Below.refl _ w13).alloc (Nat.le_refl _) _
  have bq14 : Below N9 W9 W14 := below_up bq13 al (by omega)
  have Rb := R13.below al (by omega)
  have Ra := R9.below bq14 z7
  have D14 : W14.heap[E]? = some (.cells #[.int .i64 rn, .int .i64 cn, .int .i64 wn, .slice o1b n1b c1b, .slice o2b wn c2b, .slice o3b wn c3b, .slice gb.ce.ao gb.ce.n gb.ce.c, .int .i64 rn, .slice gb.ch.ao gb.ch.n gb.ch.c, .slice gb.co.ao gb.co.n gb.co.c, .slice o4b rn c4b, .slice gb.ss.ao gb.ss.n gb.ss.c] 26 (0, 0)) := by
    rw [hW14, hE]
    exact heap_alloc_new w13 _
  have ec := Lib.hid (Lib.cell_of_heap D14)
  have dc := Lib.hid (Lib.cell_of_heap ((bq14.block D zD).trans Bx.out))
  have bEnd := Lib.hid (below_up (bW.trans (b9.mono (Nat.le_succ B))) bq14 (by omega))
  have HE := Lib.hid hE
  have HW14 := Lib.hid hW14
  clear hE hW14 al R13 R9 bq13 bq14 D14 Bx b9 K1 S1 T
  have E1 := Lib.hid (fun W (hW : Hush W14 W) => eqU2 _ _ _ _ _ _ _ _ _ W (Ra.h.hush hW) (Rb.h.hush hW))
  have E2 := Lib.hid (fun W (hW : Hush W14 W) => eqU2 _ _ _ _ _ _ _ _ _ W (Ra.a.hush hW) (Rb.a.hush hW))
  have E3 := Lib.hid (fun W (hW : Hush W14 W) => eqU2 _ _ _ _ _ _ _ _ _ W (Ra.u.hush hW) (Rb.u.hush hW))
  have E4 := Lib.hid (fun W (hW : Hush W14 W) => eqU2 _ _ _ _ _ _ _ _ _ W (Ra.ce.hush hW) (Rb.ce.hush hW))
  have E5 := Lib.hid (fun W (hW : Hush W14 W) => eqI2 _ _ _ _ _ _ _ _ _ W (Ra.ch.hush hW) (Rb.ch.hush hW))
  have E6 := Lib.hid (fun W (hW : Hush W14 W) => eqU2 _ _ _ _ _ _ _ _ _ W (Ra.co.hush hW) (Rb.co.hush hW))
  have E7 := Lib.hid (fun W (hW : Hush W14 W) => eqI2 _ _ _ _ _ _ _ _ _ W (Ra.ss.hush hW) (Rb.ss.hush hW))
  have E8 := Lib.hid (fun W (hW : Hush W14 W) => countBits _ cn wn _ _ W (Rb.a.hush hW) HN.out.2.1 HN.out.2.2.2)
  clear Ra Rb
  have dcx := dc.out
  rw [HW14.out] at dcx
  have u0 := dcx 0
  have u1 := dcx 1
  have u2 := dcx 2
  have u3 := dcx 3
  have u7 := dcx 7
  simp only [List.getElem?_toArray, List.getElem?_cons_zero, List.getElem?_cons_succ] at u0 u1 u2 u3 u7
  clear dcx
  go_wp2_with (go_at_call_of 13 (Value.slice o1a n1a c1a); rw [← HW14.out, ← HE.out]; refine (E1.out _ (Hush.refl _)).mono ?_; rintro e w15 ⟨rfl, hw15⟩; refine Hid.out ?_)
  refine Lib.hid ?_
  clear u0 u1 u2 u3 u7
  obtain ⟨nw, rfl⟩ := hw15
  have u4 := dc.out 4
  have u5 := dc.out 5
  have u6 := dc.out 6
  have u8 := dc.out 8
  have u9 := dc.out 9
  have u10 := dc.out 10
  have u11 := dc.out 11
  have v0 := ec.out 0
  have v4 := ec.out 4
  have v5 := ec.out 5
  have v6 := ec.out 6
  have v7 := ec.out 7
  have v8 := ec.out 8
  have v9 := ec.out 9
  have v10 := ec.out 10
  have v11 := ec.out 11
  simp only [List.getElem?_toArray, List.getElem?_cons_zero, List.getElem?_cons_succ] at u4 u5 u6 u8 u9 u10 u11 v0 v4 v5 v6 v7 v8 v9 v10 v11
  go_wp2_with (first
    | (go_at_call_of 13 (Value.slice o2a wn c2a); refine (E2.out _ (by exact ⟨_, rfl⟩)).mono ?_; rintro e w9 ⟨rfl, hw9⟩; replace hw9 := Hush.trans ⟨_, rfl⟩ hw9; obtain ⟨nw, rfl⟩ := hw9)
    | (go_at_call_of 13 (Value.slice o3a wn c3a); refine (E3.out _ (by exact ⟨_, rfl⟩)).mono ?_; rintro e w9 ⟨rfl, hw9⟩; replace hw9 := Hush.trans ⟨_, rfl⟩ hw9; obtain ⟨nw, rfl⟩ := hw9)
    | (go_at_call_of 13 (Value.slice ga.ce.ao ga.ce.n ga.ce.c); refine (E4.out _ (by exact ⟨_, rfl⟩)).mono ?_; rintro e w9 ⟨rfl, hw9⟩; replace hw9 := Hush.trans ⟨_, rfl⟩ hw9; obtain ⟨nw, rfl⟩ := hw9)
    | (go_at_call_of 14 (Value.slice ga.ch.ao ga.ch.n ga.ch.c); refine (E5.out _ (by exact ⟨_, rfl⟩)).mono ?_; rintro e w9 ⟨rfl, hw9⟩; replace hw9 := Hush.trans ⟨_, rfl⟩ hw9; obtain ⟨nw, rfl⟩ := hw9)
    | (go_at_call_of 13 (Value.slice ga.co.ao ga.co.n ga.co.c); refine (E6.out _ (by exact ⟨_, rfl⟩)).mono ?_; rintro e w9 ⟨rfl, hw9⟩; replace hw9 := Hush.trans ⟨_, rfl⟩ hw9; obtain ⟨nw, rfl⟩ := hw9)
    | (go_at_call_of 14 (Value.slice ga.ss.ao ga.ss.n ga.ss.c); refine (E7.out _ (by exact ⟨_, rfl⟩)).mono ?_; rintro e w9 ⟨rfl, hw9⟩; replace hw9 := Hush.trans ⟨_, rfl⟩ hw9; obtain ⟨nw, rfl⟩ := hw9)
    | (go_at_call_of 15 (Value.slice o2b wn c2b); refine (E8.out _ (by exact ⟨_, rfl⟩)).mono ?_; rintro e w9 ⟨rfl, hw9⟩; replace hw9 := hw9.symm; subst hw9))
  go_ret
  exact ⟨rfl, bEnd.out.trans ⟨rfl, rfl, rfl, Nat.le_refl _, fun _ _ => rfl⟩⟩

end Go.Proofs.Qxb6617129a
