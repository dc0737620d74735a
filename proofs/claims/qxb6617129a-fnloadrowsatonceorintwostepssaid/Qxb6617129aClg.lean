/-
  zzCloneGrid, at this dump.
-/
import Derived.Test.Qxb6617129aRd
import Derived.Deep.RegionHeld3
namespace Go.Proofs.Qxb6617129a
open Go.RowKit

/-- What the eight slices of a GridFields read as. -/
structure GX where
  h : List Value
  a : List Value
  u : List Value
  ce : List Value
  ch : List Value
  co : List Value
  sk : List Value
  ss : List Value

/-- A GridFields' slices, read. -/
structure GRd (Pt : Nat → Prop) (g : GA) (x : GX) (w : World) : Prop where
  h : Rs Pt IsU x.h g.h.ao g.h.n g.h.c w
  a : Rs Pt IsU x.a g.a.ao g.a.n g.a.c w
  u : Rs Pt IsU x.u g.u.ao g.u.n g.u.c w
  ce : Rs Pt IsU x.ce g.ce.ao g.ce.n g.ce.c w
  ch : Rs Pt IsI x.ch g.ch.ao g.ch.n g.ch.c w
  co : Rs Pt IsU x.co g.co.ao g.co.n g.co.c w
  sk : Rs Pt IsB x.sk g.sk.ao g.sk.n g.sk.c w
  ss : Rs Pt IsI x.ss g.ss.ao g.ss.n g.ss.c w

theorem GRd.kept {Pt : Nat → Prop} {g : GA} {x : GX} {w w' : World} (h : GRd Pt g x w) (k : Kept Pt w w') : GRd Pt g x w' :=
  ⟨h.h.kept k, h.a.kept k, h.u.kept k, h.ce.kept k, h.ch.kept k, h.co.kept k, h.sk.kept k, h.ss.kept k⟩
theorem GRd.mono {Pt Qt : Nat → Prop} {g : GA} {x : GX} {w : World} (h : GRd Pt g x w) (k : ∀ i, Pt i → Qt i) : GRd Qt g x w :=
  ⟨h.h.mono k, h.a.mono k, h.u.mono k, h.ce.mono k, h.ch.mono k, h.co.mono k, h.sk.mono k, h.ss.mono k⟩






/-- A row of its own, its block's range told. -/
structure Ow (E n : Nat) (xs : List Value) (s : SV) (lo hi : Nat) (w : World) : Prop where
  len : s.n = n
  own : w.ownsRow 0 E 1 s.v n xs
  ex : Exact s.v n
  rng : ∀ k, s.v.ownBlock = some k → lo ≤ k ∧ k < hi
theorem Ow.keep {E n : Nat} {xs : List Value} {s : SV} {lo hi : Nat} {w w' : World} (h : Ow E n xs s lo hi w) (k : ∀ i, lo ≤ i → i < hi → w'.heap[i]? = w.heap[i]?) : Ow E n xs s lo hi w' :=
  ⟨h.len, own_keep h.own fun i hi => k i (h.rng i hi).1 (h.rng i hi).2, h.ex, h.rng⟩
theorem Ow.below {E n : Nat} {xs : List Value} {s : SV} {lo hi B : Nat} {w w' : World} (h : Ow E n xs s lo hi w) (k : Below B w w') (hB : hi ≤ B) : Ow E n xs s lo hi w' :=
  h.keep fun i _ hi => k.block i (Nat.lt_of_lt_of_le hi hB)
theorem cloneU2 (Pt : Nat → Prop) (xs : List Value) (ao : Option Addr) (n c : Nat) (w : World) (h : Rs Pt IsU xs ao n c w) (hP : ∀ k, Pt k → k < w.heap.size) (hn : n ≤ 16777216) :
    Calls Try.prog 22 #[.slice ao n c] w fun e w' => ∃ ao' c', e = .returned (.slice ao' n c') ∧ Ow 41 n xs ⟨ao', n, c'⟩ w.heap.size w'.heap.size w' ∧ Below w.heap.size w w' := by
  refine (cloneU Pt xs ao n c w h hP hn).mono ?_
  rintro e w' ⟨v, rfl, h1, h2, h3, h4⟩
  obtain ⟨ao', c', rfl⟩ := own_form h1
  exact ⟨ao', c', rfl, ⟨rfl, h1, h2, fun k hk => ⟨h4 k hk, own_lt h1 hk⟩⟩, h3⟩
theorem cloneI2 (Pt : Nat → Prop) (xs : List Value) (ao : Option Addr) (n c : Nat) (w : World) (h : Rs Pt IsI xs ao n c w) (hP : ∀ k, Pt k → k < w.heap.size) (hn : n ≤ 16777216) :
    Calls Try.prog 27 #[.slice ao n c] w fun e w' => ∃ ao' c', e = .returned (.slice ao' n c') ∧ Ow 3 n xs ⟨ao', n, c'⟩ w.heap.size w'.heap.size w' ∧ Below w.heap.size w w' := by
  refine (cloneI Pt xs ao n c w h hP hn).mono ?_
  rintro e w' ⟨v, rfl, h1, h2, h3, h4⟩
  obtain ⟨ao', c', rfl⟩ := own_form h1
  exact ⟨ao', c', rfl, ⟨rfl, h1, h2, fun k hk => ⟨h4 k hk, own_lt h1 hk⟩⟩, h3⟩
theorem cloneB2 (Pt : Nat → Prop) (xs : List Value) (ao : Option Addr) (n c : Nat) (w : World) (h : Rs Pt IsB xs ao n c w) (hP : ∀ k, Pt k → k < w.heap.size) (hn : n ≤ 16777216) :
    Calls Try.prog 28 #[.slice ao n c] w fun e w' => ∃ ao' c', e = .returned (.slice ao' n c') ∧ Ow 4 n xs ⟨ao', n, c'⟩ w.heap.size w'.heap.size w' ∧ Below w.heap.size w w' := by
  refine (cloneB Pt xs ao n c w h hP hn).mono ?_
  rintro e w' ⟨v, rfl, h1, h2, h3, h4⟩
  obtain ⟨ao', c', rfl⟩ := own_form h1
  exact ⟨ao', c', rfl, ⟨rfl, h1, h2, fun k hk => ⟨h4 k hk, own_lt h1 hk⟩⟩, h3⟩

/-- The boxed argument's block. -/
def Box (B : Nat) (g : GA) (w : World) : Prop := w.heap[B]? = some (.cells g.cells 26 (0, 0))
theorem Box.keep {B : Nat} {g : GA} {w w' : World} (h : Box B g w) (e : w'.heap[B]? = w.heap[B]?) : Box B g w' := e.trans h
theorem Box.set {B : Nat} {g : GA} {w : World} (h : Box B g w) (j : Nat) (v : Value) : Box B g (w.setCell ⟨B + 1, j, none⟩ v) := h.keep (Below.heap_setCell _ _ _ _ (by show B ≠ B + 1; omega))
theorem Box.twelve {B : Nat} {g : GA} {w : World} (h : Box B g w) : w.cell? ⟨B, 0, none⟩ = some (.int .i64 g.r) ∧ w.cell? ⟨B, 1, none⟩ = some (.int .i64 g.c) ∧ w.cell? ⟨B, 2, none⟩ = some (.int .i64 g.wd) ∧ w.cell? ⟨B, 3, none⟩ = some (.slice g.h.ao g.h.n g.h.c) ∧ w.cell? ⟨B, 4, none⟩ = some (.slice g.a.ao g.a.n g.a.c) ∧ w.cell? ⟨B, 5, none⟩ = some (.slice g.u.ao g.u.n g.u.c) ∧ w.cell? ⟨B, 6, none⟩ = some (.slice g.ce.ao g.ce.n g.ce.c) ∧ w.cell? ⟨B, 7, none⟩ = some (.int .i64 g.ld) ∧ w.cell? ⟨B, 8, none⟩ = some (.slice g.ch.ao g.ch.n g.ch.c) ∧ w.cell? ⟨B, 9, none⟩ = some (.slice g.co.ao g.co.n g.co.c) ∧ w.cell? ⟨B, 10, none⟩ = some (.slice g.sk.ao g.sk.n g.sk.c) ∧ w.cell? ⟨B, 11, none⟩ = some (.slice g.ss.ao g.ss.n g.ss.c) := by
  have hc := Lib.cell_of_heap h
  exact ⟨hc 0, hc 1, hc 2, hc 3, hc 4, hc 5, hc 6, hc 7, hc 8, hc 9, hc 10, hc 11⟩


/-- A world that differs in one block alone. -/
structure At1 (w : World) (b : Nat) (z : List Value) (W : World) : Prop where
  blk : W.heap[b]? = some (.cells z.toArray 26 (0, 0))
  keep : ∀ k, k ≠ b → W.heap[k]? = w.heap[k]?
  size : W.heap.size = w.heap.size
  os : W.os = w.os
  tape : W.tape = w.tape
  output : W.output = w.output
theorem At1.step {w W : World} {b : Nat} {z z' : List Value} (h : At1 w b z W) (j : Nat) (v : Value) (hz : z.set j v = z') : At1 w b z' (W.setCell ⟨b, j, none⟩ v) :=
  ⟨by rw [← hz, Lib.heap_setCell_same (i := j) h.blk v]; simp, fun k hk => (Below.heap_setCell _ _ _ _ hk).trans (h.keep k hk), by rw [← h.size]; simp [World.setCell], h.os, h.tape, h.output⟩
/-- Twelve stores into one block. -/
theorem chain12 (w : World) (b : Nat) (v0 v1 v2 v3 v4 v5 v6 v7 v8 v9 v10 v11 z0 z1 z2 z3 z4 z5 z6 z7 z8 z9 z10 z11 : Value) (h : w.heap[b]? = some (.cells #[z0, z1, z2, z3, z4, z5, z6, z7, z8, z9, z10, z11] 26 (0, 0))) :
    ∃ W9, W9 = ((((((((((((w.setCell ⟨b, 0, none⟩ v0).setCell ⟨b, 1, none⟩ v1).setCell ⟨b, 2, none⟩ v2).setCell ⟨b, 3, none⟩ v3).setCell ⟨b, 4, none⟩ v4).setCell ⟨b, 5, none⟩ v5).setCell ⟨b, 6, none⟩ v6).setCell ⟨b, 7, none⟩ v7).setCell ⟨b, 8, none⟩ v8).setCell ⟨b, 9, none⟩ v9).setCell ⟨b, 10, none⟩ v10).setCell ⟨b, 11, none⟩ v11) ∧ (W9.cell? ⟨b, 0, none⟩ = some v0 ∧ W9.cell? ⟨b, 1, none⟩ = some v1 ∧ W9.cell? ⟨b, 2, none⟩ = some v2 ∧ W9.cell? ⟨b, 3, none⟩ = some v3 ∧ W9.cell? ⟨b, 4, none⟩ = some v4 ∧ W9.cell? ⟨b, 5, none⟩ = some v5 ∧ W9.cell? ⟨b, 6, none⟩ = some v6 ∧ W9.cell? ⟨b, 7, none⟩ = some v7 ∧ W9.cell? ⟨b, 8, none⟩ = some v8 ∧ W9.cell? ⟨b, 9, none⟩ = some v9 ∧ W9.cell? ⟨b, 10, none⟩ = some v10 ∧ W9.cell? ⟨b, 11, none⟩ = some v11) ∧ At1 w b [v0, v1, v2, v3, v4, v5, v6, v7, v8, v9, v10, v11] W9 := by
  have f0 : At1 w b [z0, z1, z2, z3, z4, z5, z6, z7, z8, z9, z10, z11] w := ⟨h, fun _ _ => rfl, rfl, rfl, rfl, rfl⟩
  have f1 := f0.step (z' := [v0, z1, z2, z3, z4, z5, z6, z7, z8, z9, z10, z11]) 0 v0 rfl
  have f2 := f1.step (z' := [v0, v1, z2, z3, z4, z5, z6, z7, z8, z9, z10, z11]) 1 v1 rfl
  have f3 := f2.step (z' := [v0, v1, v2, z3, z4, z5, z6, z7, z8, z9, z10, z11]) 2 v2 rfl
  have f4 := f3.step (z' := [v0, v1, v2, v3, z4, z5, z6, z7, z8, z9, z10, z11]) 3 v3 rfl
  have f5 := f4.step (z' := [v0, v1, v2, v3, v4, z5, z6, z7, z8, z9, z10, z11]) 4 v4 rfl
  have f6 := f5.step (z' := [v0, v1, v2, v3, v4, v5, z6, z7, z8, z9, z10, z11]) 5 v5 rfl
  have f7 := f6.step (z' := [v0, v1, v2, v3, v4, v5, v6, z7, z8, z9, z10, z11]) 6 v6 rfl
  have f8 := f7.step (z' := [v0, v1, v2, v3, v4, v5, v6, v7, z8, z9, z10, z11]) 7 v7 rfl
  have f9 := f8.step (z' := [v0, v1, v2, v3, v4, v5, v6, v7, v8, z9, z10, z11]) 8 v8 rfl
  have f10 := f9.step (z' := [v0, v1, v2, v3, v4, v5, v6, v7, v8, v9, z10, z11]) 9 v9 rfl
  have f11 := f10.step (z' := [v0, v1, v2, v3, v4, v5, v6, v7, v8, v9, v10, z11]) 10 v10 rfl
  have f12 := f11.step (z' := [v0, v1, v2, v3, v4, v5, v6, v7, v8, v9, v10, v11]) 11 v11 rfl
  have hc := Lib.cell_of_heap f12.blk
  exact ⟨_, rfl, ⟨hc 0, hc 1, hc 2, hc 3, hc 4, hc 5, hc 6, hc 7, hc 8, hc 9, hc 10, hc 11⟩, f12⟩

/-- A clone: the numbers, and eight rows of their own. -/
structure Cl (g : GA) (x : GX) (B m1 m2 m3 : Nat) (g' : GA) (w : World) : Prop where
  r : g'.r = g.r
  c : g'.c = g.c
  wd : g'.wd = g.wd
  ld : g'.ld = g.ld
  o1 : B ≤ m1
  o2 : m1 ≤ m2
  o3 : m2 ≤ m3
  o4 : m3 ≤ w.heap.size
  h : Ow 41 g.h.n x.h g'.h B m1 w
  a : Ow 41 g.a.n x.a g'.a m1 m2 w
  u : Ow 41 g.u.n x.u g'.u m2 m3 w
  ce : Ow 41 g.ce.n x.ce g'.ce m3 w.heap.size w
  ch : Ow 3 g.ch.n x.ch g'.ch m3 w.heap.size w
  co : Ow 41 g.co.n x.co g'.co m3 w.heap.size w
  sk : Ow 4 g.sk.n x.sk g'.sk m3 w.heap.size w
  ss : Ow 3 g.ss.n x.ss g'.ss m3 w.heap.size w
theorem Ow.wide {E n : Nat} {xs : List Value} {s : SV} {lo hi lo' hi' : Nat} {w : World} (h : Ow E n xs s lo hi w) (h1 : lo' ≤ lo) (h2 : hi ≤ hi') : Ow E n xs s lo' hi' w :=
  ⟨h.len, h.own, h.ex, fun k hk => ⟨Nat.le_trans h1 (h.rng k hk).1, Nat.lt_of_lt_of_le (h.rng k hk).2 h2⟩⟩

set_option maxHeartbeats 800000 in
set_option maxRecDepth 100000 in
theorem cloneGrid (g : GA) (x : GX) (w : World) (h : GRd (fun k => k < w.heap.size) g x w) (hs : Small g) :
    Calls Try.prog 10 #[g.val] w fun e w' => ∃ g' m1 m2 m3, e = .returned g'.val ∧ Cl g x w.heap.size m1 m2 m3 g' w' ∧ Below w.heap.size w w' := by
  obtain ⟨B, hB⟩ : ∃ B, B = w.heap.size := ⟨_, rfl⟩
  rw [← hB] at h
  obtain ⟨W0, hW0⟩ : ∃ W0, W0 = (w.alloc (.cells g.cells 26)).alloc (.cells #[.int .i64 0, .int .i64 0, .int .i64 0, .slice none 0 0, .slice none 0 0, .slice none 0 0, .slice none 0 0, .int .i64 0, .slice none 0 0, .slice none 0 0, .slice none 0 0, .slice none 0 0] 26) := ⟨_, rfl⟩
  have bW : Below B w W0 := by rw [hW0, hB]; exact ((Below.refl _ w).alloc (Nat.le_refl _) _).alloc (by simp) _
  have hz0 : B + 2 ≤ W0.drew.heap.size := by show B + 2 ≤ W0.heap.size; rw [hW0, hB]; simp
  have K0 : GRd (fun k => k < B) g x W0.drew := (fun (a : GRd (fun k => k < B) g x W0) => a.kept ((Kept.refl _ W0).drewN 1)) <| h.kept ((Kept.refl _ w).below (fun k hk => by rw [← hB]; exact hk) (hB ▸ bW))
  have S0' : Box B g W0 := by
    show W0.heap[B]? = _
    rw [hW0, Below.heap_alloc _ _ _ (by simp; omega), hB]
    exact heap_alloc_new w _
  have S0 : Box B g W0.drew := S0'
  have Z0 : W0.drew.heap[B + 1]? = some (.cells #[.int .i64 0, .int .i64 0, .int .i64 0, .slice none 0 0, .slice none 0 0, .slice none 0 0, .slice none 0 0, .int .i64 0, .slice none 0 0, .slice none 0 0, .slice none 0 0, .slice none 0 0] 26 (0, 0)) := by
    show W0.heap[B + 1]? = _
    have e : B + 1 = (w.alloc (.cells g.cells 26)).heap.size := by rw [hB]; simp
    rw [hW0, e]
    exact heap_alloc_new _ _
  have HB := Lib.hid hB
  have HW0 := Lib.hid hW0
  clear hB hW0 h S0'
  unfold Small at hs
  unfold GA.val
  unfold GA.cells at HW0 ⊢
  go_enter Try.func10, Try.ntmps10
  go_wp2_with fail
  rw [← HW0.out, ← HB.out]
  have T := Lib.hid (fun w' (hb : Box B g w') => hb.twelve)
  have t0 := fun w' (hb : Box B g w') => (T.out w' hb).1
  have t1 := fun w' (hb : Box B g w') => (T.out w' hb).2.1
  have t2 := fun w' (hb : Box B g w') => (T.out w' hb).2.2.1
  have t3 := fun w' (hb : Box B g w') => (T.out w' hb).2.2.2.1
  have t4 := fun w' (hb : Box B g w') => (T.out w' hb).2.2.2.2.1
  have t5 := fun w' (hb : Box B g w') => (T.out w' hb).2.2.2.2.2.1
  have t6 := fun w' (hb : Box B g w') => (T.out w' hb).2.2.2.2.2.2.1
  have t7 := fun w' (hb : Box B g w') => (T.out w' hb).2.2.2.2.2.2.2.1
  have t8 := fun w' (hb : Box B g w') => (T.out w' hb).2.2.2.2.2.2.2.2.1
  have t9 := fun w' (hb : Box B g w') => (T.out w' hb).2.2.2.2.2.2.2.2.2.1
  have t10 := fun w' (hb : Box B g w') => (T.out w' hb).2.2.2.2.2.2.2.2.2.2.1
  have t11 := fun w' (hb : Box B g w') => (T.out w' hb).2.2.2.2.2.2.2.2.2.2.2
  go_region_held3 (fun w' => Box B g w') (first | with_reducible assumption | ((repeat (with_reducible apply Box.set)) <;> with_reducible assumption)) ((first
    | (go_at_call_of 22 (Value.slice g.h.ao g.h.n g.h.c); refine (cloneU2 (fun k => k < B) x.h g.h.ao g.h.n g.h.c _ K0.h (by have := hz0; intro k hk; exact Nat.lt_of_lt_of_le hk (Nat.le_trans (by omega) this)) (by omega)).mono ?_; rintro e w1 ⟨a1, k1, rfl, cl1, bl1⟩; have hz1 : B + 2 ≤ w1.heap.size := Nat.le_trans hz0 bl1.size; have K1 := K0.kept ((Kept.refl _ _).below (by have := hz0; intro k hk; exact Nat.lt_of_lt_of_le hk (Nat.le_trans (by omega) this)) bl1); have S1 := S0.keep (by exact bl1.block B (by have := hz0; exact Nat.lt_of_lt_of_le (by omega) this)); have Z1 := (bl1.block (B + 1) (by have := hz0; exact Nat.lt_of_lt_of_le (by omega) this)).trans Z0)
    | (go_at_call_of 22 (Value.slice g.a.ao g.a.n g.a.c); refine (cloneU2 (fun k => k < B) x.a g.a.ao g.a.n g.a.c _ K1.a (by have := hz1; intro k hk; exact Nat.lt_of_lt_of_le hk (Nat.le_trans (by omega) this)) (by omega)).mono ?_; rintro e w2 ⟨a2, k2, rfl, cl2, bl2⟩; have hz2 : B + 2 ≤ w2.heap.size := Nat.le_trans hz1 bl2.size; have K2 := K1.kept ((Kept.refl _ _).below (by have := hz1; intro k hk; exact Nat.lt_of_lt_of_le hk (Nat.le_trans (by omega) this)) bl2); have S2 := S1.keep (by exact bl2.block B (by have := hz1; exact Nat.lt_of_lt_of_le (by omega) this)); have Z2 := (bl2.block (B + 1) (by have := hz1; exact Nat.lt_of_lt_of_le (by omega) this)).trans Z1)
    | (go_at_call_of 22 (Value.slice g.u.ao g.u.n g.u.c); refine (cloneU2 (fun k => k < B) x.u g.u.ao g.u.n g.u.c _ K2.u (by have := hz2; intro k hk; exact Nat.lt_of_lt_of_le hk (Nat.le_trans (by omega) this)) (by omega)).mono ?_; rintro e w3 ⟨a3, k3, rfl, cl3, bl3⟩; have hz3 : B + 2 ≤ w3.heap.size := Nat.le_trans hz2 bl3.size; have K3 := K2.kept ((Kept.refl _ _).below (by have := hz2; intro k hk; exact Nat.lt_of_lt_of_le hk (Nat.le_trans (by omega) this)) bl3); have S3 := S2.keep (by exact bl3.block B (by have := hz2; exact Nat.lt_of_lt_of_le (by omega) this)); have Z3 := (bl3.block (B + 1) (by have := hz2; exact Nat.lt_of_lt_of_le (by omega) this)).trans Z2)
    | (go_at_call_of 22 (Value.slice g.ce.ao g.ce.n g.ce.c); refine (cloneU2 (fun k => k < B) x.ce g.ce.ao g.ce.n g.ce.c _ K3.ce (by have := hz3; intro k hk; exact Nat.lt_of_lt_of_le hk (Nat.le_trans (by omega) this)) (by omega)).mono ?_; rintro e w4 ⟨a4, k4, rfl, cl4, bl4⟩; have hz4 : B + 2 ≤ w4.heap.size := Nat.le_trans hz3 bl4.size; have K4 := K3.kept ((Kept.refl _ _).below (by have := hz3; intro k hk; exact Nat.lt_of_lt_of_le hk (Nat.le_trans (by omega) this)) bl4); have S4 := S3.keep (by exact bl4.block B (by have := hz3; exact Nat.lt_of_lt_of_le (by omega) this)); have Z4 := (bl4.block (B + 1) (by have := hz3; exact Nat.lt_of_lt_of_le (by omega) this)).trans Z3)
    | (go_at_call_of 27 (Value.slice g.ch.ao g.ch.n g.ch.c); refine (cloneI2 (fun k => k < B) x.ch g.ch.ao g.ch.n g.ch.c _ K4.ch (by have := hz4; intro k hk; exact Nat.lt_of_lt_of_le hk (Nat.le_trans (by omega) this)) (by omega)).mono ?_; rintro e w5 ⟨a5, k5, rfl, cl5, bl5⟩; have hz5 : B + 2 ≤ w5.heap.size := Nat.le_trans hz4 bl5.size; have K5 := K4.kept ((Kept.refl _ _).below (by have := hz4; intro k hk; exact Nat.lt_of_lt_of_le hk (Nat.le_trans (by omega) this)) bl5); have S5 := S4.keep (by exact bl5.block B (by have := hz4; exact Nat.lt_of_lt_of_le (by omega) this)); have Z5 := (bl5.block (B + 1) (by have := hz4; exact Nat.lt_of_lt_of_le (by omega) this)).trans Z4)
    | (go_at_call_of 22 (Value.slice g.co.ao g.co.n g.co.c); refine (cloneU2 (fun k => k < B) x.co g.co.ao g.co.n g.co.c _ K5.co (by have := hz5; intro k hk; exact Nat.lt_of_lt_of_le hk (Nat.le_trans (by omega) this)) (by omega)).mono ?_; rintro e w6 ⟨a6, k6, rfl, cl6, bl6⟩; have hz6 : B + 2 ≤ w6.heap.size := Nat.le_trans hz5 bl6.size; have K6 := K5.kept ((Kept.refl _ _).below (by have := hz5; intro k hk; exact Nat.lt_of_lt_of_le hk (Nat.le_trans (by omega) this)) bl6); have S6 := S5.keep (by exact bl6.block B (by have := hz5; exact Nat.lt_of_lt_of_le (by omega) this)); have Z6 := (bl6.block (B + 1) (by have := hz5; exact Nat.lt_of_lt_of_le (by omega) this)).trans Z5)
    | (go_at_call_of 28 (Value.slice g.sk.ao g.sk.n g.sk.c); refine (cloneB2 (fun k => k < B) x.sk g.sk.ao g.sk.n g.sk.c _ K6.sk (by have := hz6; intro k hk; exact Nat.lt_of_lt_of_le hk (Nat.le_trans (by omega) this)) (by omega)).mono ?_; rintro e w7 ⟨a7, k7, rfl, cl7, bl7⟩; have hz7 : B + 2 ≤ w7.heap.size := Nat.le_trans hz6 bl7.size; have K7 := K6.kept ((Kept.refl _ _).below (by have := hz6; intro k hk; exact Nat.lt_of_lt_of_le hk (Nat.le_trans (by omega) this)) bl7); have S7 := S6.keep (by exact bl7.block B (by have := hz6; exact Nat.lt_of_lt_of_le (by omega) this)); have Z7 := (bl7.block (B + 1) (by have := hz6; exact Nat.lt_of_lt_of_le (by omega) this)).trans Z6)
    | (go_at_call_of 27 (Value.slice g.ss.ao g.ss.n g.ss.c); refine (cloneI2 (fun k => k < B) x.ss g.ss.ao g.ss.n g.ss.c _ K7.ss (by have := hz7; intro k hk; exact Nat.lt_of_lt_of_le hk (Nat.le_trans (by omega) this)) (by omega)).mono ?_; rintro e w8 ⟨a8, k8, rfl, cl8, bl8⟩; have hz8 : B + 2 ≤ w8.heap.size := Nat.le_trans hz7 bl8.size; have K8 := K7.kept ((Kept.refl _ _).below (by have := hz7; intro k hk; exact Nat.lt_of_lt_of_le hk (Nat.le_trans (by omega) this)) bl8); have S8 := S7.keep (by exact bl8.block B (by have := hz7; exact Nat.lt_of_lt_of_le (by omega) this)); have Z8 := (bl8.block (B + 1) (by have := hz7; exact Nat.lt_of_lt_of_le (by omega) this)).trans Z7; have PK := Lib.hid (And.intro Z8 (And.intro bW (And.intro cl1 (And.intro bl1 (And.intro cl2 (And.intro bl2 (And.intro cl3 (And.intro bl3 (And.intro cl4 (And.intro bl4 (And.intro cl5 (And.intro bl5 (And.intro cl6 (And.intro bl6 (And.intro cl7 (And.intro bl7 (And.intro cl8 (And.intro bl8 hz0)))))))))))))))))); clear T t0 t1 t2 t3 t4 t5 t6 t7 t8 t9 t10 t11 K0 K1 K2 K3 K4 K5 K6 K7 K8 S0 S1 S2 S3 S4 S5 S6 S7 cl1 bl1 Z1 cl2 bl2 Z2 cl3 bl3 Z3 cl4 bl4 Z4 cl5 bl5 Z5 cl6 bl6 Z6 cl7 bl7 Z7 Z0 cl8 bl8 bW hs hz0 hz1 hz2 hz3 hz4 hz5 hz6 hz7 hz8; have zc0 := Lib.cell_of_heap Z8 0; simp only [List.getElem?_toArray, List.getElem?_cons_zero] at zc0; have zf0 := Lib.frozen_of_heap Z8 0; have zc1 := Lib.cell_of_heap Z8 1; simp only [List.getElem?_toArray, List.getElem?_cons_zero, List.getElem?_cons_succ] at zc1; have zf1 := Lib.frozen_of_heap Z8 1; have zc2 := Lib.cell_of_heap Z8 2; simp only [List.getElem?_toArray, List.getElem?_cons_zero, List.getElem?_cons_succ] at zc2; have zf2 := Lib.frozen_of_heap Z8 2; have zc3 := Lib.cell_of_heap Z8 3; simp only [List.getElem?_toArray, List.getElem?_cons_zero, List.getElem?_cons_succ] at zc3; have zf3 := Lib.frozen_of_heap Z8 3; have zc4 := Lib.cell_of_heap Z8 4; simp only [List.getElem?_toArray, List.getElem?_cons_zero, List.getElem?_cons_succ] at zc4; have zf4 := Lib.frozen_of_heap Z8 4; have zc5 := Lib.cell_of_heap Z8 5; simp only [List.getElem?_toArray, List.getElem?_cons_zero, List.getElem?_cons_succ] at zc5; have zf5 := Lib.frozen_of_heap Z8 5; have zc6 := Lib.cell_of_heap Z8 6; simp only [List.getElem?_toArray, List.getElem?_cons_zero, List.getElem?_cons_succ] at zc6; have zf6 := Lib.frozen_of_heap Z8 6; have zc7 := Lib.cell_of_heap Z8 7; simp only [List.getElem?_toArray, List.getElem?_cons_zero, List.getElem?_cons_succ] at zc7; have zf7 := Lib.frozen_of_heap Z8 7; have zc8 := Lib.cell_of_heap Z8 8; simp only [List.getElem?_toArray, List.getElem?_cons_zero, List.getElem?_cons_succ] at zc8; have zf8 := Lib.frozen_of_heap Z8 8; have zc9 := Lib.cell_of_heap Z8 9; simp only [List.getElem?_toArray, List.getElem?_cons_zero, List.getElem?_cons_succ] at zc9; have zf9 := Lib.frozen_of_heap Z8 9; have zc10 := Lib.cell_of_heap Z8 10; simp only [List.getElem?_toArray, List.getElem?_cons_zero, List.getElem?_cons_succ] at zc10; have zf10 := Lib.frozen_of_heap Z8 10; have zc11 := Lib.cell_of_heap Z8 11; simp only [List.getElem?_toArray, List.getElem?_cons_zero, List.getElem?_cons_succ] at zc11; have zf11 := Lib.frozen_of_heap Z8 11; clear Z8)))
  clear S8 zc0 zf0 zc1 zf1 zc2 zf2 zc3 zf3 zc4 zf4 zc5 zf5 zc6 zf6 zc7 zf7 zc8 zf8 zc9 zf9 zc10 zf10 zc11 zf11
  obtain ⟨W9, hW9, C9, A9⟩ := chain12 w8 (B + 1) (.int .i64 g.r) (.int .i64 g.c) (.int .i64 g.wd) (.slice a1 g.h.n k1) (.slice a2 g.a.n k2) (.slice a3 g.u.n k3) (.slice a4 g.ce.n k4) (.int .i64 g.ld) (.slice a5 g.ch.n k5) (.slice a6 g.co.n k6) (.slice a7 g.sk.n k7) (.slice a8 g.ss.n k8) _ _ _ _ _ _ _ _ _ _ _ _ PK.out.1
  rw [← hW9]
  clear hW9
  obtain ⟨d0, d1, d2, d3, d4, d5, d6, d7, d8, d9, d10, d11⟩ := C9
  go_wp2
  refine bodyPost_ret (v := .agg #[.int .i64 g.r, .int .i64 g.c, .int .i64 g.wd, .slice a1 g.h.n k1, .slice a2 g.a.n k2, .slice a3 g.u.n k3, .slice a4 g.ce.n k4, .int .i64 g.ld, .slice a5 g.ch.n k5, .slice a6 g.co.n k6, .slice a7 g.sk.n k7, .slice a8 g.ss.n k8]) (by simp [results, Try.results10, go_sem, d0, d1, d2, d3, d4, d5, d6, d7, d8, d9, d10, d11]) rfl ?_
  clear d0 d1 d2 d3 d4 d5 d6 d7 d8 d9 d10 d11
  have kp := A9.keep
  have sz := A9.size
  obtain ⟨Z8, bW, cl1, bl1, cl2, bl2, cl3, bl3, cl4, bl4, cl5, bl5, cl6, bl6, cl7, bl7, cl8, bl8, hz0⟩ := PK.out
  have hB := HB.out
  have hz0' : B + 2 ≤ W0.heap.size := hz0
  have hz1 : W0.heap.size ≤ w1.heap.size := bl1.size
  have hz2 := bl2.size
  have hz3 := bl3.size
  have hz4 := bl4.size
  have hz5 := bl5.size
  have hz6 := bl6.size
  have hz7 := bl7.size
  have hz8 := bl8.size
  have B9 : Below B w8 W9 := by
    refine ⟨A9.os, A9.tape, A9.output, by rw [sz]; exact Nat.le_refl _, fun k hk => kp k (by omega)⟩
  have up : ∀ {a b c : World} {n m : Nat}, Below n a b → Below m b c → n ≤ m → Below n a c := fun {a b c n m} h1 h2 h3 => h1.trans (h2.mono h3)
  have k78 := fun k (hk : k < w7.heap.size) => bl8.block k hk
  refine ⟨⟨g.r, g.c, g.wd, ⟨a1, g.h.n, k1⟩, ⟨a2, g.a.n, k2⟩, ⟨a3, g.u.n, k3⟩, ⟨a4, g.ce.n, k4⟩, g.ld, ⟨a5, g.ch.n, k5⟩, ⟨a6, g.co.n, k6⟩, ⟨a7, g.sk.n, k7⟩, ⟨a8, g.ss.n, k8⟩⟩, w1.heap.size, w2.heap.size, w3.heap.size, rfl, ?_, ?_⟩
  · rw [← hB]
    have f8 : ∀ k, k < w8.heap.size → B + 2 ≤ k → W9.heap[k]? = w8.heap[k]? := fun k _ h2 => kp k (by omega)
    have f7 : ∀ k, k < w7.heap.size → B + 2 ≤ k → W9.heap[k]? = w7.heap[k]? := fun k h1 h2 => (f8 k (by omega) h2).trans (bl8.block k h1)
    have f6 : ∀ k, k < w6.heap.size → B + 2 ≤ k → W9.heap[k]? = w6.heap[k]? := fun k h1 h2 => (f7 k (by omega) h2).trans (bl7.block k h1)
    have f5 : ∀ k, k < w5.heap.size → B + 2 ≤ k → W9.heap[k]? = w5.heap[k]? := fun k h1 h2 => (f6 k (by omega) h2).trans (bl6.block k h1)
    have f4 : ∀ k, k < w4.heap.size → B + 2 ≤ k → W9.heap[k]? = w4.heap[k]? := fun k h1 h2 => (f5 k (by omega) h2).trans (bl5.block k h1)
    have f3 : ∀ k, k < w3.heap.size → B + 2 ≤ k → W9.heap[k]? = w3.heap[k]? := fun k h1 h2 => (f4 k (by omega) h2).trans (bl4.block k h1)
    have f2 : ∀ k, k < w2.heap.size → B + 2 ≤ k → W9.heap[k]? = w2.heap[k]? := fun k h1 h2 => (f3 k (by omega) h2).trans (bl3.block k h1)
    have f1 : ∀ k, k < w1.heap.size → B + 2 ≤ k → W9.heap[k]? = w1.heap[k]? := fun k h1 h2 => (f2 k (by omega) h2).trans (bl2.block k h1)
    exact ⟨rfl, rfl, rfl, rfl, by omega, hz2, hz3, by omega,
      (cl1.keep fun k h1 h2 => f1 k h2 (Nat.le_trans hz0 h1)).wide (by omega) (Nat.le_refl _),
      cl2.keep fun k h1 h2 => f2 k h2 (by omega),
      cl3.keep fun k h1 h2 => f3 k h2 (by omega),
      (cl4.keep fun k h1 h2 => f4 k h2 (by omega)).wide (by omega) (by omega),
      (cl5.keep fun k h1 h2 => f5 k h2 (by omega)).wide (by omega) (by omega),
      (cl6.keep fun k h1 h2 => f6 k h2 (by omega)).wide (by omega) (by omega),
      (cl7.keep fun k h1 h2 => f7 k h2 (by omega)).wide (by omega) (by omega),
      (cl8.keep fun k h1 h2 => f8 k h2 (by omega)).wide (by omega) (by omega)⟩
  · rw [← hB]
    have b0 : Below B w W0.drew := bW.trans ⟨rfl, rfl, rfl, Nat.le_refl _, fun _ _ => rfl⟩
    exact up (up (up (up (up (up (up (up (up b0 bl1 (Nat.le_trans (by omega) hz0)) bl2 (by omega)) bl3 (by omega)) bl4 (by omega)) bl5 (by omega)) bl6 (by omega)) bl7 (by omega)) bl8 (by omega)) B9 (Nat.le_refl _)

end Go.Proofs.Qxb6617129a
