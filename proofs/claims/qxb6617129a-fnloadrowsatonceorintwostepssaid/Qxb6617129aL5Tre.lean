/-
  FnLoadRowsAtOnceOrInTwoSteps, at this dump: case Tre. (Written by a program.)
-/
import Derived.Test.Qxb6617129aLdn
namespace Go.Proofs.Qxb6617129a
open Go.RowKit

set_option maxHeartbeats 1600000 in
set_option maxRecDepth 100000 in
theorem law5Tre (g : GA) (x : GX) (sh su sce sch sco ssk sss : SV) (oa : Option Addr) (ca cn wn l : Nat) (w : World) (hg : g = ⟨(l : Int), (cn : Int), (wn : Int), sh, ⟨oa, wn, ca⟩, su, sce, (l : Int), sch, sco, ssk, sss⟩)
    (h : GRd (fun k => k < w.heap.size) g x w) (L : Ld l l cn wn sh.n su.n sce.n)  :
    Calls Try.prog 5 #[g.val, .int .i64 l] w fun e w' => e = .returned (.bool true) ∧ Below w.heap.size w w' := by
  have tys := h.tys
  obtain ⟨m, hm⟩ : ∃ m, l = l + m := ⟨0, rfl⟩
  obtain ⟨m1, hm1⟩ : ∃ m1, l = l + m1 := ⟨0, rfl⟩
  obtain ⟨m2, hm2⟩ : ∃ m2, l = l + m2 := ⟨0, rfl⟩
  have hmm : m = m1 + m2 := by omega
  have hrr : g.r = (l : Int) ∨ (g.r ≤ l ∧ l = l) := Or.inl (by rw [hg])
  have hrr2 := hrr
  have gld : g.ld = (l : Int) := by rw [hg]
  have gcc : g.c = (cn : Int) := by rw [hg]
  have gww : g.wd = (wn : Int) := by rw [hg]
  have gan : g.a.n = wn := by rw [hg]
  have Lg : Ld l l cn wn g.h.n g.u.n g.ce.n := by rw [hg]; exact L
  have Hn := Lib.hid (And.intro hm (And.intro hm1 (And.intro hm2 (And.intro hmm (And.intro hrr (And.intro hrr2 (And.intro gld (And.intro gcc (And.intro gww gan)))))))))
  clear hm hm1 hm2 hmm hrr hrr2 gld gcc gww gan
  obtain ⟨B, hB⟩ : ∃ B, B = w.heap.size := ⟨_, rfl⟩
  rw [← hB] at h ⊢
  obtain ⟨W1, hW1⟩ : ∃ W1, W1 = w.alloc (.cells g.cells 26) := ⟨_, rfl⟩
  have bW : Below B w W1 := by rw [hW1, hB]; exact (Below.refl _ w).alloc (Nat.le_refl _) _
  have hz1 : B + 1 ≤ W1.heap.size := by rw [hW1, hB]; simp
  have K1 : GRd (fun k => k < B) g x W1 := h.kept ((Kept.refl _ w).below (fun k hk => by rw [← hB]; exact hk) (hB ▸ bW))
  have S1 : Box B g W1 := by
    show W1.heap[B]? = _
    rw [hW1, hB]
    exact heap_alloc_new w _
  have HB := Lib.hid hB
  have HW1 := Lib.hid hW1
  clear hB hW1 h
  have C20 := Lib.hid (fun W => bytes20 g ((l : Nat) : Int) W)
  have C7 := Lib.hid (fun W => tooBig g W)
  have C21 := Lib.hid (fun W hs => loadFits g W hs)
  have C10 := Lib.hid (fun W => cloneGrid g x W)
  have C25 := Lib.hid (fun g1 W => restSame g1 g W)
  have T0 := Lib.hid (fun w' (hb : Box B g w') => hb.twelve)
  have HL := Lib.hid Lg
  have Hg := Lib.hid hg
  clear Lg
  rw [hg] at C20 C7 C21 C10 T0 ⊢
  simp only [GA.val, GA.cells] at C20 C7 C21 C10 T0 ⊢
  have T := Lib.hid (fun w' (hb : Box B g w') => T0.out w' (by rw [← hg]; exact hb))
  clear T0
  rw [hg] at HW1
  simp only [GA.cells] at HW1
  clear hg
  go_enter Try.func5, Try.ntmps5
  go_wp2_with (go_at_call 20; rw [← HW1.out, ← HB.out]; refine (C20.out _).mono ?_; rintro e w2 ⟨⟨b1, rfl, _⟩, bl2⟩; refine Hid.out ?_)
  refine Lib.hid ?_
  have b2 : Below (B + 1) W1 w2 := bl2.mono hz1
  clear bl2 HW1 C20
  cases b1
  · go_wp2
    go_ret
    exact ⟨rfl, bW.trans (b2.mono (by omega))⟩
  obtain ⟨t0, t1, t2, t3, t4, t5, t6, t7, t8, t9, t10, t11⟩ := T.out w2 (S1.alive b2 (by omega))
  go_wp2_with (go_at_call 7; refine (C7.out _).mono ?_; rintro e w3 ⟨⟨b1, rfl, hsm⟩, bl3⟩; refine Hid.out ?_)
  refine Lib.hid ?_
  clear t0 t1 t2 t3 t4 t5 t6 t7 t8 t9 t10 t11
  have b3 : Below (B + 1) W1 w3 := below_up b2 bl3 (Nat.le_trans hz1 b2.size)
  clear bl3 b2 C7
  cases b1
  case true =>
    go_wp2
    go_ret
    exact ⟨rfl, bW.trans (b3.mono (by omega))⟩
  have hsL := Lib.hid (hsm rfl)
  have hs : Hid (Small g) := by rw [Hg.out]; exact hsL.out
  clear hsm
  obtain ⟨t0, t1, t2, t3, t4, t5, t6, t7, t8, t9, t10, t11⟩ := T.out w3 (S1.alive b3 (by omega))
  have C21b := Lib.hid (fun W => C21.out W hsL.out)
  go_wp2_with (go_at_call 21; refine (C21b.out _).mono ?_; rintro e w4 ⟨⟨b1, rfl, _⟩, bl4⟩; refine Hid.out ?_)
  refine Lib.hid ?_
  clear t0 t1 t2 t3 t4 t5 t6 t7 t8 t9 t10 t11
  have b4 : Below (B + 1) W1 w4 := below_up b3 bl4 (Nat.le_trans hz1 b3.size)
  clear bl4 b3 C21 C21b
  cases b1
  · go_wp2
    go_ret
    exact ⟨rfl, bW.trans (b4.mono (by omega))⟩
--STEP A
  have hz4 : B + 1 ≤ w4.heap.size := Nat.le_trans hz1 b4.size
  have K4 := K1.below b4 (by omega)
  obtain ⟨t0, t1, t2, t3, t4, t5, t6, t7, t8, t9, t10, t11⟩ := T.out w4 (S1.alive b4 (by omega))
  have q1 : ¬ (l : Int) < l := by omega
  have D22 := Lib.hid (cloneU2 (fun k => k < B) x.h g.h.ao g.h.n g.h.c w4 K4.h (fun k hk => by omega) (by have := hs.out.1; omega))
  rw [Hg.out] at D22
  go_wp2_with (go_at_call_of 22 (Value.slice sh.ao sh.n sh.c); refine D22.out.mono ?_; rintro e w5 ⟨o5, c5, rfl, ow5, bl5⟩; refine Hid.out ?_)
  refine Lib.hid ?_
  clear t0 t1 t2 t3 t4 t5 t6 t7 t8 t9 t10 t11 D22 K4
  have hz5 : w4.heap.size ≤ w5.heap.size := bl5.size
  have b5 : Below (B + 1) W1 w5 := below_up b4 bl5 hz4
  have K5 := K1.below b5 (by omega)
  obtain ⟨t0, t1, t2, t3, t4, t5, t6, t7, t8, t9, t10, t11⟩ := T.out w5 (S1.alive b5 (by omega))
  have D22 := Lib.hid (cloneU2 (fun k => k < B) x.u g.u.ao g.u.n g.u.c w5 K5.u (fun k hk => by omega) (by have := hs.out.2.2.1; omega))
  rw [Hg.out] at D22
  go_wp2_with (go_at_call_of 22 (Value.slice su.ao su.n su.c); refine D22.out.mono ?_; rintro e w6 ⟨o6, c6, rfl, ow6, bl6⟩; refine Hid.out ?_)
  refine Lib.hid ?_
  clear t0 t1 t2 t3 t4 t5 t6 t7 t8 t9 t10 t11 D22 K5
  have hz6 : w5.heap.size ≤ w6.heap.size := bl6.size
  have b6 : Below (B + 1) W1 w6 := below_up b5 bl6 (by omega)
  have ER : Er (fun k => k < w4.heap.size) ⟨o5, sh.n, c5⟩ ⟨o6, su.n, c6⟩ (x.h, x.u) w6 := by
    have ow5' := ow5.below bl6 (Nat.le_refl _)
    refine ⟨fun k hk => by omega, ow5'.own, ow6.own, fun k hk => ?_, fun k hk => ?_, fun k h1 h2 => ?_⟩
    · have := ow5.rng k hk; omega
    · have := ow6.rng k hk; omega
    · have := ow5.rng k h1; have := ow6.rng k h2; omega
  clear ow5 ow6 bl5 bl6 b5 b4
--STEP B
  obtain ⟨t0, t1, t2, t3, t4, t5, t6, t7, t8, t9, t10, t11⟩ := T.out w6 (S1.alive b6 (by omega))
  go_wp2_with fail
  clear t0 t1 t2 t3 t4 t5 t6 t7 t8 t9 t10 t11
  obtain ⟨N4, hN4⟩ : ∃ N, N = w4.heap.size := ⟨_, rfl⟩
  rw [← hN4] at ER hz5 hz4
  clear hN4
  have okS := Lib.hid (fun j r i (hi : i ≤ wn) => rowF_ok (ce := x.ce) (cn := cn) (wn := wn) (r := r) (rowsF_ok (ce := x.ce) (al := x.a) (cn := cn) (wn := wn) (l := l) (st := (x.h, x.u)) (nh := sh.n) (nu := su.n) ⟨by have := K1.h.len; rw [Hg.out] at this; exact this, by have := K1.u.len; rw [Hg.out] at this; exact this, tys.h, tys.u⟩ tys.a (by have := K1.a.len; rw [Hg.out] at this; have := L.u; dsimp only at *; omega) (by have := K1.a.len; rw [Hg.out] at this; exact this.symm) j) tys.a (by have := K1.a.len; rw [Hg.out] at this; have := L.u; dsimp only at *; omega) i (by have := K1.a.len; rw [Hg.out] at this; dsimp only at *; omega))
  go_loopw [8, 9, 10] (fun r _ _ wr => ∃ j : Nat, j ≤ m ∧ r = .int .i64 (l + j : Nat) ∧ Kept (fun k => k < N4) w6 wr ∧ Er (fun k => k < N4) ⟨o5, sh.n, c5⟩ ⟨o6, su.n, c6⟩ (rowsF x.ce x.a cn wn l j (x.h, x.u)) wr) (fun r _ _ _ => l - (intOf r).toNat)
  case atStart => exact ⟨0, Nat.zero_le _, rfl, Kept.refl _ _, ER⟩
  case round =>
    obtain ⟨j, hj, rfl, kp, Ej⟩ := hrel
    have bj : Below (B + 1) W1 wr := b6.trans (kp.toBelow (fun k hk => by omega))
    by_cases hjm : j < m
    · exact absurd hjm (by have := Hn.out.1; omega)
    · have ej : j = m := by omega
      have ql : l + j = l := by have := Hn.out.1; omega
      rw [ql]
      rw [ej] at Ej
      clear ql ej hjm hj
      obtain ⟨t0, t1, t2, t3, t4, t5, t6, t7, t8, t9, t10, t11⟩ := T.out wr (S1.alive bj (by omega))
      have Sl : Hid (StOk sh.n su.n (rowsF x.ce x.a cn wn l m (x.h, x.u))) := okS.out m 0 0 (Nat.zero_le _)
      have Sl1 : Hid (StOk sh.n su.n (rowsF x.ce x.a cn wn l m1 (x.h, x.u))) := okS.out m1 0 0 (Nat.zero_le _)
      obtain ⟨N0, hN0⟩ : ∃ N, N = wr.heap.size := ⟨_, rfl⟩
      have hzr : B + 1 ≤ N0 := by rw [hN0]; exact Nat.le_trans hz1 bj.size
      have C10a := Lib.hid (C10.out wr (by rw [← Hg.out]; exact (K1.below bj (by omega)).mono fun k hk => by omega) hsL.out)
      rw [← Hg.out, ← hN0] at C10a
      have HEj := Lib.hid (And.intro hN0 (And.intro Ej bj))
      clear okS hN0 Ej kp
      go_wp2_with (go_at_call 10; refine C10a.out.mono ?_; rintro e v1 ⟨ga, p1a, p2a, p3a, rfl, cla, bl1⟩; refine Hid.out ?_)
      refine Lib.hid ?_
      clear t0 t1 t2 t3 t4 t5 t6 t7 t8 t9 t10 t11 C10a
      have bq1 : Below N0 wr v1 := bl1
      have hN1 : N0 ≤ v1.heap.size := by have := cla.o1; have := cla.o2; have := cla.o3; have := cla.o4; omega
      clear bl1
      have C9 := Lib.hid (fun W => build2 ga W)
      unfold GA.val GA.cells at C9
      go_wp2_with (go_at_call 9; refine (C9.out _).mono ?_; rintro e v2 ⟨rfl, hv2⟩; refine Hid.out ?_)
      refine Lib.hid ?_
      obtain ⟨G2, kv2⟩ := cla.gr hv2.out
      have bq2 : Below N0 wr v2 := below_up bq1 (built_below hv2.out) hN1
      clear hv2 C9 bq1
      obtain ⟨qa, hqa⟩ : ∃ q, q = v1.heap.size + 1 := ⟨_, rfl⟩
      rw [← hqa] at G2 ⊢
      clear hqa
      have C24 := Lib.hid (cla.load tys kv2 G2 l l cn wn m Hn.out.2.2.2.2.2.2.1 Hn.out.2.2.2.2.2.2.2.1 Hn.out.2.2.2.2.2.2.2.2.1 Hn.out.2.2.2.2.2.2.2.2.2 (Hn.out.2.2.2.2.1.imp id fun h => ⟨h.1, rfl⟩) HL.out Hn.out.1)
      clear G2
      go_wp2_with (go_at_call 24; refine C24.out.mono ?_; rintro e v3 ⟨rfl, kv3, G3⟩; refine Hid.out ?_)
      refine Lib.hid ?_
      have bq3 : Below N0 wr v3 := bq2.trans (kv3.toBelowC (Nat.le_refl _))
      have RA := cla.after8 tys (kv2.trans kv3) G3 (XS_isU Sl.out tys.a) rfl rfl rfl rfl rfl
      rw [XS_0, XS_1, XS_2] at RA
      have Q3 := Lib.hid G3.blk
      have hN3 : N0 ≤ v3.heap.size := Nat.le_trans hN1 (Nat.le_trans kv2.size kv3.size)
      clear C24 kv2 kv3 G3 bq2
      have C12 := Lib.hid (fun W hW => read (gl ga l) qa W (Eq.trans hW Q3.out))
      simp only [GA.val, GA.cells, gl] at C12
      go_wp2_with (go_at_call 12; refine (C12.out _ (by exact rfl)).mono ?_; rintro e v4 ⟨rfl, bl4⟩; refine Hid.out ?_)
      refine Lib.hid ?_
      have hN4 : v3.heap.size ≤ v4.heap.size := bl4.size
      have bq4 : Below N0 wr v4 := below_up bq3 bl4 hN3
      have RA4 := RA.below bl4 (Nat.le_refl _)
      clear bl4 C12 Q3 bq3 RA
      obtain ⟨D, hD⟩ : ∃ D, D = v4.heap.size := ⟨_, rfl⟩
      obtain ⟨W5, hW5⟩ : ∃ W5, W5 = v4.alloc (.cells #[.int .i64 ga.r, .int .i64 ga.c, .int .i64 ga.wd, .slice ga.h.ao ga.h.n ga.h.c, .slice ga.a.ao ga.a.n ga.a.c, .slice ga.u.ao ga.u.n ga.u.c, .slice ga.ce.ao ga.ce.n ga.ce.c, .int .i64 (l : Int), .slice ga.ch.ao ga.ch.n ga.ch.c, .slice ga.co.ao ga.co.n ga.co.c, .slice ga.sk.ao ga.sk.n ga.sk.c, .slice ga.ss.ao ga.ss.n ga.ss.c] 26) := ⟨_, rfl⟩
      have al : Below D v4 W5 := by rw [hW5, hD]; exact (Below.refl _ v4).alloc (Nat.le_refl _) _
      have bq5 : Below N0 wr W5 := below_up bq4 al (by omega)
      have RA5 := RA4.below al (by omega)
      have D5 : W5.heap[D]? = some (.cells #[.int .i64 ga.r, .int .i64 ga.c, .int .i64 ga.wd, .slice ga.h.ao ga.h.n ga.h.c, .slice ga.a.ao ga.a.n ga.a.c, .slice ga.u.ao ga.u.n ga.u.c, .slice ga.ce.ao ga.ce.n ga.ce.c, .int .i64 (l : Int), .slice ga.ch.ao ga.ch.n ga.ch.c, .slice ga.co.ao ga.co.n ga.co.c, .slice ga.sk.ao ga.sk.n ga.sk.c, .slice ga.ss.ao ga.ss.n ga.ss.c] 26 (0, 0)) := by
        rw [hW5, hD]
        exact heap_alloc_new v4 _
      obtain ⟨N5, hN5⟩ : ∃ N, N = W5.heap.size := ⟨_, rfl⟩
      have zD : D < N5 := by rw [hN5]; exact Lib.lt_of_heap D5
      have z3 : v3.heap.size ≤ N5 := by omega
      have bj5 : Below (B + 1) W1 W5 := below_up HEj.out.2.2 bq5 hzr
      have C10b := Lib.hid (C10.out W5 (by rw [← Hg.out]; exact (K1.below bj5 (by omega)).mono fun k hk => by omega) hsL.out)
      rw [← Hg.out, ← hN5] at C10b
      have HD := Lib.hid hD
      have HW5 := Lib.hid hW5
      have Bx := Lib.hid D5
      have tt := T.out W5 (S1.alive bj5 (by omega))
      rw [hW5] at tt
      obtain ⟨t0, t1, t2, t3, t4, t5, t6, t7, t8, t9, t10, t11⟩ := tt
      have hN50 : N0 ≤ N5 := by omega
      clear hD hW5 al RA4 bq4 D5 hN5
      go_wp2_with (go_at_call 10; rw [← HW5.out, ← HD.out]; refine C10b.out.mono ?_; rintro e v6 ⟨gb, p1b, p2b, p3b, rfl, clb, bl6⟩; refine Hid.out ?_)
      refine Lib.hid ?_
      clear t0 t1 t2 t3 t4 t5 t6 t7 t8 t9 t10 t11 C10b HW5 HD C10
      have bq6 : Below N5 W5 v6 := bl6
      have hN6 : N5 ≤ v6.heap.size := by have := clb.o1; have := clb.o2; have := clb.o3; have := clb.o4; omega
      clear bl6
      obtain ⟨W7, hW7⟩ : ∃ W7, W7 = v6.alloc (.cells #[.int .i64 (l : Int), .int .i64 gb.c, .int .i64 gb.wd, .slice gb.h.ao gb.h.n gb.h.c, .slice gb.a.ao gb.a.n gb.a.c, .slice gb.u.ao gb.u.n gb.u.c, .slice gb.ce.ao gb.ce.n gb.ce.c, .int .i64 gb.ld, .slice gb.ch.ao gb.ch.n gb.ch.c, .slice gb.co.ao gb.co.n gb.co.c, .slice gb.sk.ao gb.sk.n gb.sk.c, .slice gb.ss.ao gb.ss.n gb.ss.c] 26) := ⟨_, rfl⟩
      have al7 : Below v6.heap.size v6 W7 := by rw [hW7]; exact (Below.refl _ v6).alloc (Nat.le_refl _) _
      have clb2 := (clb.below al7).setr (l : Int)
      have bq7 : Below N5 W5 W7 := below_up bq6 al7 hN6
      have hN7 : N5 ≤ W7.heap.size := Nat.le_trans hN6 al7.size
      have HW7 := Lib.hid hW7
      have HC := Lib.hid (And.intro clb.c (And.intro clb.wd (And.intro clb.ld (And.intro clb.h.len (And.intro clb.u.len clb.a.len)))))
      clear hW7 al7 bq6 clb
      have C9 := Lib.hid (fun W => build2 (gb.setr (l : Int)) W)
      simp only [GA.val, GA.cells, GA.setr] at C9
      go_wp2_with (go_at_call 9; rw [← HW7.out]; refine (C9.out _).mono ?_; rintro e v8 ⟨rfl, hv8⟩; refine Hid.out ?_)
      refine Lib.hid ?_
      obtain ⟨G8, kv8⟩ := clb2.gr (by exact hv8.out)
      have bq8 : Below N5 W5 v8 := below_up bq7 (built_below (g := gb.setr (l : Int)) (by exact hv8.out)) hN7
      clear hv8 C9 bq7
      obtain ⟨qb, hqb⟩ : ∃ q, q = W7.heap.size + 1 := ⟨_, rfl⟩
      rw [← hqb] at G8 ⊢
      clear hqb
      have C24 := Lib.hid (clb2.load tys kv8 G8 l l cn wn m1 Hn.out.2.2.2.2.2.2.1 Hn.out.2.2.2.2.2.2.2.1 Hn.out.2.2.2.2.2.2.2.2.1 Hn.out.2.2.2.2.2.2.2.2.2 (Or.inl rfl) (HL.out.fore (by omega) (by omega)) Hn.out.2.1)
      clear G8
      go_wp2_with (go_at_call 24; refine C24.out.mono ?_; rintro e v9 ⟨rfl, kv9, G9⟩; refine Hid.out ?_)
      refine Lib.hid ?_
      have bq9 : Below N5 W5 v9 := bq8.trans (kv9.toBelowC (Nat.le_refl _))
      have k79 := kv8.trans kv9
      have hN9 : N5 ≤ v9.heap.size := Nat.le_trans hN7 k79.size
      have Q9 := Lib.hid G9.blk
      clear C24 kv8 kv9 bq8
      have C12 := Lib.hid (fun W hW => read (gl (gb.setr (l : Int)) l) qb W (Eq.trans hW Q9.out))
      simp only [GA.val, GA.cells, gl, GA.setr] at C12
      go_wp2_with (go_at_call 12; refine (C12.out _ (by exact rfl)).mono ?_; rintro e v10 ⟨rfl, bl10⟩; refine Hid.out ?_)
      refine Lib.hid ?_
      have hN10 : v9.heap.size ≤ v10.heap.size := bl10.size
      have bq10 : Below N5 W5 v10 := below_up bq9 bl10 hN9
      clear C12 Q9 bq9
      have bj10 : Below (B + 1) W1 v10 := below_up bj5 bq10 (by omega)
      have hzB : B < v10.heap.size := by omega
      have t0 : ∀ o, (v10.alloc o).cell? ⟨B, 0, none⟩ = some (.int .i64 (l : Int)) := fun o => by
        rw [World.cell?_alloc_lt _ _ _ hzB]
        exact (T.out v10 (S1.alive bj10 (by omega))).1
      obtain ⟨W11, hW11⟩ : ∃ W11, W11 = v10.alloc (.cells #[.int .i64 (l : Int), .int .i64 gb.c, .int .i64 gb.wd, .slice gb.h.ao gb.h.n gb.h.c, .slice gb.a.ao gb.a.n gb.a.c, .slice gb.u.ao gb.u.n gb.u.c, .slice gb.ce.ao gb.ce.n gb.ce.c, .int .i64 (l : Int), .slice gb.ch.ao gb.ch.n gb.ch.c, .slice gb.co.ao gb.co.n gb.co.c, .slice gb.sk.ao gb.sk.n gb.sk.c, .slice gb.ss.ao gb.ss.n gb.ss.c] 26) := ⟨_, rfl⟩
      have b911 : Below v9.heap.size v9 W11 := by rw [hW11]; exact bl10.alloc hN10 _
      have bq11 : Below N5 W5 W11 := by rw [hW11]; exact bq10.alloc (by omega) _
      have HW11 := Lib.hid hW11
      clear hW11 bl10 bj10
      have C9 := Lib.hid (fun W => build2 ((gl (gb.setr (l : Int)) l).setr (l : Int)) W)
      simp only [GA.val, GA.cells, gl, GA.setr] at C9
      go_wp2_with (go_at_call 9; rw [← HW11.out]; refine (C9.out _).mono ?_; rintro e v12 ⟨rfl, hv12⟩; refine Hid.out ?_)
      refine Lib.hid ?_
      obtain ⟨G12, k912⟩ := G9.again (g' := (gl (gb.setr (l : Int)) l).setr (l : Int)) b911 rfl (by exact hv12.out)
      have hN11 : N5 ≤ W11.heap.size := by have := b911.size; omega
      have bq12 : Below N5 W5 v12 := below_up bq11 (built_below (g := (gl (gb.setr (l : Int)) l).setr (l : Int)) (by exact hv12.out)) hN11
      clear hv12 C9 bq11 b911 G9 t0 HW11
      obtain ⟨qc, hqc⟩ : ∃ q, q = W11.heap.size + 1 := ⟨_, rfl⟩
      rw [← hqc] at G12 ⊢
      clear hqc
      have k712 := k79.trans k912
      have C24 := Lib.hid (clb2.loadOn tys k712 G12 l l cn wn m2 rfl (by exact HC.out.2.2.2.1) (by exact HC.out.2.2.2.2.1) rfl (by exact HC.out.1.trans Hn.out.2.2.2.2.2.2.2.1) (by exact HC.out.2.1.trans Hn.out.2.2.2.2.2.2.2.2.1) (by exact HC.out.2.2.2.2.2.trans Hn.out.2.2.2.2.2.2.2.2.2) (by have := Hn.out.2.2.2.2.2.1; rw [Hg.out] at this; exact this.imp id fun h => ⟨h.1, rfl⟩) (HL.out.rear (by omega) (by omega)) Sl1.out Hn.out.2.2.1)
      have eS : rowsF x.ce x.a cn wn l m2 (rowsF x.ce x.a cn wn l m1 (x.h, x.u)) = rowsF x.ce x.a cn wn l m (x.h, x.u) := by
        have e1 := Hn.out.2.2.2.1
        have e2 := Hn.out.2.1
        rw [e1, rowsF_add, ← e2]
      rw [eS] at C24
      clear G12 k79 k912 eS
      go_wp2_with (go_at_call 24; refine C24.out.mono ?_; rintro e v13 ⟨rfl, kv13, G13⟩; refine Hid.out ?_)
      refine Lib.hid ?_
      have bq13 : Below N5 W5 v13 := bq12.trans (kv13.toBelowC (Nat.le_refl _))
      have k713 := k712.trans kv13
      have RC := clb2.after8 tys k713 G13 (XS_isU Sl.out tys.a) rfl rfl rfl rfl rfl
      rw [XS_0, XS_1, XS_2] at RC
      have hN13 : N5 ≤ v13.heap.size := Nat.le_trans hN7 k713.size
      have Q13 := Lib.hid G13.blk
      clear C24 k712 kv13 k713 G13 bq12 clb2
      have C12 := Lib.hid (fun W hW => read (gl ((gl (gb.setr (l : Int)) l).setr (l : Int)) l) qc W (Eq.trans hW Q13.out))
      simp only [GA.val, GA.cells, gl, GA.setr] at C12
      go_wp2_with (go_at_call 12; refine (C12.out _ (by exact rfl)).mono ?_; rintro e v14 ⟨rfl, bl14⟩; refine Hid.out ?_)
      refine Lib.hid ?_
      have hN14 : v13.heap.size ≤ v14.heap.size := bl14.size
      have bq14 : Below N5 W5 v14 := below_up bq13 bl14 hN13
      have RC14 := RC.below bl14 (Nat.le_refl _)
      clear bl14 C12 Q13 bq13 RC
      obtain ⟨E, hE⟩ : ∃ E, E = v14.heap.size := ⟨_, rfl⟩
      obtain ⟨W15, hW15⟩ : ∃ W15, W15 = v14.alloc (.cells #[.int .i64 (l : Int), .int .i64 gb.c, .int .i64 gb.wd, .slice gb.h.ao gb.h.n gb.h.c, .slice gb.a.ao gb.a.n gb.a.c, .slice gb.u.ao gb.u.n gb.u.c, .slice gb.ce.ao gb.ce.n gb.ce.c, .int .i64 (l : Int), .slice gb.ch.ao gb.ch.n gb.ch.c, .slice gb.co.ao gb.co.n gb.co.c, .slice gb.sk.ao gb.sk.n gb.sk.c, .slice gb.ss.ao gb.ss.n gb.ss.c] 26) := ⟨_, rfl⟩
      have al : Below E v14 W15 := by rw [hW15, hE]; exact (Below.refl _ v14).alloc (Nat.le_refl _) _
      have bq15 : Below N5 W5 W15 := below_up bq14 al (by omega)
      have RC15 := RC14.below al (by omega)
      have RA15 := RA5.below bq15 z3
      have BE : Box E (gl ((gl (gb.setr (l : Int)) l).setr (l : Int)) l) W15 := by
        show W15.heap[E]? = _
        rw [hW15, hE]
        exact heap_alloc_new v14 _
      have BD : Box D (gl ga l) W15 := (bq15.block D zD).trans Bx.out
      have b015 : Below N0 wr W15 := below_up bq5 bq15 hN50
      have bj15 : Below (B + 1) W1 W15 := below_up bj5 bq15 (by omega)
      have BB := S1.alive bj15 (by omega)
      have K15 := K1.below bj15 (by omega)
      have Ej := HEj.out.2.1
      have zw : E < W15.heap.size := Lib.lt_of_heap BE
      have xh : Rs (fun k => k < W15.heap.size) IsU (rowsF x.ce x.a cn wn l m (x.h, x.u)).1 o5 sh.n c5 W15 := own_rs (s := ⟨o5, sh.n, c5⟩) (own_keep Ej.o1 fun k hk => b015.block k (by rw [HEj.out.1]; exact own_lt Ej.o1 hk)) Sl.out.t1
      have xu : Rs (fun k => k < W15.heap.size) IsU (rowsF x.ce x.a cn wn l m (x.h, x.u)).2 o6 su.n c6 W15 := own_rs (s := ⟨o6, su.n, c6⟩) (own_keep Ej.o2 fun k hk => b015.block k (by rw [HEj.out.1]; exact own_lt Ej.o2 hk)) Sl.out.t2
      have E1 := Lib.hid (fun W (hW : Hush W15 W) => eqU2 _ _ _ _ _ _ _ _ _ W (RA15.h.hush hW) (xh.hush hW))
      have E2 := Lib.hid (fun W (hW : Hush W15 W) => eqU2 _ _ _ _ _ _ _ _ _ W (RC15.h.hush hW) (xh.hush hW))
      have E3 := Lib.hid (fun W (hW : Hush W15 W) => eqU2 _ _ _ _ _ _ _ _ _ W (RA15.u.hush hW) (xu.hush hW))
      have E4 := Lib.hid (fun W (hW : Hush W15 W) => eqU2 _ _ _ _ _ _ _ _ _ W (RC15.u.hush hW) (xu.hush hW))
      have M1 := rsm_of RA15 K15 (by omega) (by omega) (by exact cla.r) (by exact cla.c) (by exact cla.wd) rfl rfl rfl rfl rfl rfl
      have M2 := rsm_of RC15 K15 (by omega) (by omega) (by rw [Hg.out]; rfl) (by exact HC.out.1) (by exact HC.out.2.1) rfl rfl rfl rfl rfl rfl
      have F1 := Lib.hid (fun W (hW : Hush W15 W) => C25.out _ W (M1.below (hW.below _)))
      have F2 := Lib.hid (fun W (hW : Below W15.heap.size W15 W) => C25.out _ W (M2.below hW))
      rw [Hg.out] at F1 F2
      simp only [GA.val, GA.cells, gl, GA.setr] at F1 F2
      have bEnd := Lib.hid (below_up (bW.trans (bj5.mono (Nat.le_succ B))) bq15 (by omega))
      have YD := Lib.hid BD.twelve
      have YE := Lib.hid BE.twelve
      have YB := Lib.hid (T.out W15 BB)
      have YE2 := Lib.hid (fun W (hW : Below W15.heap.size W15 W) => (BE.alive hW zw).twelve)
      have YB2 := Lib.hid (fun W (hW : Below W15.heap.size W15 W) => T.out W (BB.alive hW (by omega)))
      simp only [gl, GA.setr] at YD YE YE2
      have zB : B ≤ W15.heap.size := by omega
      have HE := Lib.hid hE
      have HW15 := Lib.hid hW15
      clear hE hW15 al bq14 bq15 RC14 RC15 RA15 RA5 BE BD BB b015 bj15 K15 Ej zw xh xu M1 M2 S1 K1 C25 HEj Bx T HC Sl Sl1 hs hsL bq5 bj5
      have ud := YD.out
      rw [HW15.out] at ud
      obtain ⟨_, _, _, u3, _, _, _, u7, _, _, _, _⟩ := ud
      go_wp2_with (go_at_call_of 13 (Value.slice ga.h.ao ga.h.n ga.h.c); rw [← HW15.out, ← HE.out]; refine (E1.out _ (Hush.refl _)).mono ?_; rintro e w15 ⟨rfl, hw15⟩; refine Hid.out ?_)
      refine Lib.hid ?_
      clear u3 u7
      obtain ⟨nw, rfl⟩ := hw15
      obtain ⟨d0, d1, d2, d3, d4, d5, d6, d7, d8, d9, d10, d11⟩ := YD.out
      obtain ⟨e0, e1, e2, e3, e4, e5, e6, e7, e8, e9, e10, e11⟩ := YE.out
      obtain ⟨t0, t1, t2, t3, t4, t5, t6, t7, t8, t9, t10, t11⟩ := YB.out
      go_wp2_with (first
        | (go_at_call_of 13 (Value.slice gb.h.ao gb.h.n gb.h.c); refine (E2.out _ (by exact ⟨_, rfl⟩)).mono ?_; rintro e w9 ⟨rfl, hw9⟩; replace hw9 := Hush.trans ⟨_, rfl⟩ hw9; obtain ⟨nw, rfl⟩ := hw9)
        | (go_at_call_of 13 (Value.slice ga.u.ao ga.u.n ga.u.c); refine (E3.out _ (by exact ⟨_, rfl⟩)).mono ?_; rintro e w9 ⟨rfl, hw9⟩; replace hw9 := Hush.trans ⟨_, rfl⟩ hw9; obtain ⟨nw, rfl⟩ := hw9)
        | (go_at_call_of 13 (Value.slice gb.u.ao gb.u.n gb.u.c); refine (E4.out _ (by exact ⟨_, rfl⟩)).mono ?_; rintro e w9 ⟨rfl, hw9⟩; replace hw9 := Hush.trans ⟨_, rfl⟩ hw9; obtain ⟨nw, rfl⟩ := hw9)
        | (go_at_call 25; refine (F1.out _ (by exact ⟨_, rfl⟩)).mono ?_; rintro e w16 ⟨rfl, bl16⟩; refine Hid.out ?_))
      refine Lib.hid ?_
      clear d0 d1 d2 d3 d4 d5 d6 d7 d8 d9 d10 d11 e0 e1 e2 e3 e4 e5 e6 e7 e8 e9 e10 e11 t0 t1 t2 t3 t4 t5 t6 t7 t8 t9 t10 t11
      have b16 : Below W15.heap.size W15 w16 := ⟨bl16.os, bl16.tape, bl16.output, bl16.size, bl16.block⟩
      obtain ⟨e0, e1, e2, e3, e4, e5, e6, e7, e8, e9, e10, e11⟩ := YE2.out w16 b16
      obtain ⟨t0, t1, t2, t3, t4, t5, t6, t7, t8, t9, t10, t11⟩ := YB2.out w16 b16
      go_wp2_with (go_at_call 25; refine (F2.out _ b16).mono ?_; rintro e w17 ⟨rfl, bl17⟩)
      go_ret
      exact ⟨rfl, below_up (below_up bEnd.out b16 (by omega)) bl17 (by have := b16.size; omega)⟩

end Go.Proofs.Qxb6617129a
