/-
  ZZLoadRows, zzRestSame, at this dump.
-/
import Derived.Test.Qxb6617129aLrw
import Derived.Test.Qxb6617129aEmp
namespace Go.Proofs.Qxb6617129a
open Go.RowKit

/-- Two slices that read the same. -/
def Both (T : Value → Prop) (s1 s2 : SV) (w : World) : Prop := ∃ xs, Rs (fun k => k < w.heap.size) T xs s1.ao s1.n s1.c w ∧ Rs (fun k => k < w.heap.size) T xs s2.ao s2.n s2.c w
theorem Both.below {T : Value → Prop} {s1 s2 : SV} {w w' : World} (h : Both T s1 s2 w) (b : Below w.heap.size w w') : Both T s1 s2 w' := by
  obtain ⟨xs, h1, h2⟩ := h
  have k : Kept (fun k => k < w.heap.size) w w' := (Kept.refl _ w).below (fun _ h => h) b
  exact ⟨xs, (h1.kept k).mono fun i hi => Nat.lt_of_lt_of_le hi b.size, (h2.kept k).mono fun i hi => Nat.lt_of_lt_of_le hi b.size⟩
structure RSm (g1 g2 : GA) (w : World) : Prop where
  r : g1.r = g2.r
  c : g1.c = g2.c
  wd : g1.wd = g2.wd
  a : Both IsU g1.a g2.a w
  ce : Both IsU g1.ce g2.ce w
  co : Both IsU g1.co g2.co w
  ch : Both IsI g1.ch g2.ch w
  sk : Both IsB g1.sk g2.sk w
  ss : Both IsI g1.ss g2.ss w
theorem RSm.below {g1 g2 : GA} {w w' : World} (h : RSm g1 g2 w) (b : Below w.heap.size w w') : RSm g1 g2 w' :=
  ⟨h.r, h.c, h.wd, h.a.below b, h.ce.below b, h.co.below b, h.ch.below b, h.sk.below b, h.ss.below b⟩
theorem both_eqU {s1 s2 : SV} {w W : World} (h : Both IsU s1 s2 w) (q : Hush w W) : Calls Try.prog 13 #[.slice s1.ao s1.n s1.c, .slice s2.ao s2.n s2.c] W fun e w' => e = .returned (.bool true) ∧ Hush W w' := by
  obtain ⟨xs, h1, h2⟩ := h
  exact eqU2 _ _ xs _ _ _ _ _ _ W (h1.hush q) (h2.hush q)
theorem both_eqI {s1 s2 : SV} {w W : World} (h : Both IsI s1 s2 w) (q : Hush w W) : Calls Try.prog 14 #[.slice s1.ao s1.n s1.c, .slice s2.ao s2.n s2.c] W fun e w' => e = .returned (.bool true) ∧ Hush W w' := by
  obtain ⟨xs, h1, h2⟩ := h
  exact eqI2 _ _ xs _ _ _ _ _ _ W (h1.hush q) (h2.hush q)
theorem both_eqB {s1 s2 : SV} {w W : World} (h : Both IsB s1 s2 w) (q : Hush w W) : Calls Try.prog 32 #[.slice s1.ao s1.n s1.c, .slice s2.ao s2.n s2.c] W fun e w' => e = .returned (.bool true) ∧ Hush W w' := by
  obtain ⟨xs, h1, h2⟩ := h
  exact eqB2 _ _ xs _ _ _ _ _ _ W (h1.hush q) (h2.hush q)

set_option maxHeartbeats 400000 in
theorem zzLoadRows (Q : Ending → World → Prop) (q : Nat) (w : World) (h : Calls Try.prog 31 #[.pointer (some ⟨q, 0, none⟩)] w fun e w' => e = .returned (.tuple #[]) ∧ Q e w') :
    Calls Try.prog 24 #[.pointer (some ⟨q, 0, none⟩)] w fun e w' => e = .returned (.tuple #[]) ∧ Q e w' := by
  have H := Lib.hid h
  clear h
  go_enter Try.func24, Try.ntmps24
  go_wp2_with (go_at_call 31; refine H.out.mono ?_; rintro e w2 ⟨rfl, hq⟩)
  go_end0
  exact ⟨rfl, hq⟩

set_option maxHeartbeats 1600000 in
set_option maxRecDepth 100000 in
theorem restSame (g1 g2 : GA) (w : World) (h : RSm g1 g2 w) :
    Calls Try.prog 25 #[g1.val, g2.val] w fun e w' => e = .returned (.bool true) ∧ Below w.heap.size w w' := by
  obtain ⟨r1, c1, wd1, h1, a1, u1, ce1, l1, ch1, co1, sk1, ss1⟩ := g1
  obtain ⟨r2, c2, wd2, h2, a2, u2, ce2, l2, ch2, co2, sk2, ss2⟩ := g2
  have q1 := h.r
  have q2 := h.c
  have q3 := h.wd
  dsimp only at q1 q2 q3
  subst q1
  subst q2
  subst q3
  obtain ⟨g1, hg1⟩ : ∃ g1 : GA, g1 = ⟨r1, c1, wd1, h1, a1, u1, ce1, l1, ch1, co1, sk1, ss1⟩ := ⟨_, rfl⟩
  obtain ⟨g2, hg2⟩ : ∃ g2 : GA, g2 = ⟨r1, c1, wd1, h2, a2, u2, ce2, l2, ch2, co2, sk2, ss2⟩ := ⟨_, rfl⟩
  rw [← hg1, ← hg2] at h ⊢
  obtain ⟨B, hB⟩ : ∃ B, B = w.heap.size := ⟨_, rfl⟩
  obtain ⟨W0, hW0⟩ : ∃ W0, W0 = (w.alloc (.cells g1.cells 26)).alloc (.cells g2.cells 26) := ⟨_, rfl⟩
  have bW : Below B w W0 := by rw [hW0, hB]; exact ((Below.refl _ w).alloc (Nat.le_refl _) _).alloc (by simp) _
  have h0 := h.below (hB ▸ bW)
  have Z1 : Box B g1 W0 := by
    show W0.heap[B]? = _
    rw [hW0, Below.heap_alloc _ _ _ (by simp; omega), hB]
    exact heap_alloc_new w _
  have Z2 : Box (B + 1) g2 W0 := by
    show W0.heap[B + 1]? = _
    have e : B + 1 = (w.alloc (.cells g1.cells 26)).heap.size := by rw [hB]; simp
    rw [hW0, e]
    exact heap_alloc_new _ _
  rw [← hB]
  have HB := Lib.hid hB
  have HW0 := Lib.hid hW0
  have Y1 := Lib.hid Z1.twelve
  have Y2 := Lib.hid Z2.twelve
  have E1 := Lib.hid (fun W q => both_eqU (W := W) h0.a q)
  have E2 := Lib.hid (fun W q => both_eqU (W := W) h0.ce q)
  have E3 := Lib.hid (fun W q => both_eqU (W := W) h0.co q)
  have E4 := Lib.hid (fun W q => both_eqI (W := W) h0.ch q)
  have E5 := Lib.hid (fun W q => both_eqB (W := W) h0.sk q)
  have E6 := Lib.hid (fun W q => both_eqI (W := W) h0.ss q)
  clear hB hW0 h h0 Z1 Z2
  subst hg1
  subst hg2
  simp only [GA.val, GA.cells] at HW0 Y1 Y2 E1 E2 E3 E4 E5 E6 ⊢
  go_enter Try.func25, Try.ntmps25
  go_wp2_with (go_at_call_of 13 (Value.slice a1.ao a1.n a1.c); rw [← HW0.out, ← HB.out]; refine (E1.out _ (Hush.refl _)).mono ?_; rintro e w15 ⟨rfl, hw15⟩; refine Hid.out ?_)
  refine Lib.hid ?_
  obtain ⟨nw, rfl⟩ := hw15
  obtain ⟨_, _, _, _, u4, _, u6, _, u8, u9, u10, u11⟩ := Y1.out
  obtain ⟨_, _, _, _, v4, _, v6, _, v8, v9, v10, v11⟩ := Y2.out
  go_wp2_with (first
    | (go_at_call_of 13 (Value.slice ce1.ao ce1.n ce1.c); refine (E2.out _ (by exact ⟨_, rfl⟩)).mono ?_; rintro e w9 ⟨rfl, hw9⟩; replace hw9 := Hush.trans ⟨_, rfl⟩ hw9; obtain ⟨nw, rfl⟩ := hw9)
    | (go_at_call_of 13 (Value.slice co1.ao co1.n co1.c); refine (E3.out _ (by exact ⟨_, rfl⟩)).mono ?_; rintro e w9 ⟨rfl, hw9⟩; replace hw9 := Hush.trans ⟨_, rfl⟩ hw9; obtain ⟨nw, rfl⟩ := hw9)
    | (go_at_call_of 14 (Value.slice ch1.ao ch1.n ch1.c); refine (E4.out _ (by exact ⟨_, rfl⟩)).mono ?_; rintro e w9 ⟨rfl, hw9⟩; replace hw9 := Hush.trans ⟨_, rfl⟩ hw9; obtain ⟨nw, rfl⟩ := hw9)
    | (go_at_call_of 32 (Value.slice sk1.ao sk1.n sk1.c); refine (E5.out _ (by exact ⟨_, rfl⟩)).mono ?_; rintro e w9 ⟨rfl, hw9⟩; replace hw9 := Hush.trans ⟨_, rfl⟩ hw9; obtain ⟨nw, rfl⟩ := hw9)
    | (go_at_call_of 14 (Value.slice ss1.ao ss1.n ss1.c); refine (E6.out _ (by exact ⟨_, rfl⟩)).mono ?_; rintro e w9 ⟨rfl, hw9⟩; replace hw9 := Hush.trans ⟨_, rfl⟩ hw9; obtain ⟨nw, rfl⟩ := hw9))
  go_ret
  exact ⟨rfl, bW.trans ⟨rfl, rfl, rfl, Nat.le_refl _, fun _ _ => rfl⟩⟩

end Go.Proofs.Qxb6617129a
