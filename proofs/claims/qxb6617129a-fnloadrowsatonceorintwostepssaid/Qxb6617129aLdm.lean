/-
  Loading rows, told for law 5: the bounds, two rows of the caller's own, the Grid built again. No walk.
-/
import Derived.Test.Qxb6617129aRss
import Derived.Test.Qxb6617129aLft
namespace Go.Proofs.Qxb6617129a
open Go.RowKit

/-- Rows l .. lm-1 may be loaded. -/
structure Ld (l lm cn wn hn un cen : Nat) : Prop where
  le : l ≤ lm
  top : l < lm → lm ≤ 32768
  c : cn ≤ 32768
  w : wn ≤ 131072
  u : wn ≤ un
  hh : ∀ r, l ≤ r → r < lm → r * wn + wn ≤ hn
  hcs : ∀ r i, l ≤ r → r < lm → i < wn → (r * cn + 64 * i) / 64 < cen
theorem Ld.fore {l k lm cn wn hn un cen : Nat} (h : Ld l lm cn wn hn un cen) (h1 : l ≤ k) (h2 : k ≤ lm) : Ld l k cn wn hn un cen :=
  ⟨h1, fun h3 => Nat.le_trans h2 (h.top (by omega)), h.c, h.w, h.u, fun r a b => h.hh r a (by omega), fun r i a b c => h.hcs r i a (by omega) c⟩
theorem Ld.rear {l k lm cn wn hn un cen : Nat} (h : Ld l lm cn wn hn un cen) (h1 : l ≤ k) (h2 : k ≤ lm) : Ld k lm cn wn hn un cen :=
  ⟨h2, fun h3 => h.top (by omega), h.c, h.w, h.u, fun r a b => h.hh r (by omega) b, fun r i a b c => h.hcs r i (by omega) b c⟩
theorem ld_of {rn cn wn l hn un cen : Nat} (r1 : rn ≤ 32768) (c1 : cn ≤ 32768) (w1 : wn ≤ 131072) (u1 : wn ≤ un) (hl : l < rn)
    (h : 0 < wn → (rn : Int) ≤ (hn : Int) / (wn : Int) ∧ (((rn : Int) - 1) * (cn : Int) + 64 * ((wn : Int) - 1)) / 64 < cen) : Ld l rn cn wn hn un cen := by
  refine ⟨by omega, fun _ => r1, c1, w1, u1, fun r _ hr => ?_, fun r i _ hr hi => ?_⟩
  · by_cases h0 : 0 < wn
    · obtain ⟨h1, _⟩ := h h0
      have e : ((hn : Int) / (wn : Int)) = ((hn / wn : Nat) : Int) := by push_cast; rfl
      rw [e] at h1
      have h2 : rn ≤ hn / wn := by omega
      have h3 : rn * wn ≤ hn := (Nat.le_div_iff_mul_le h0).1 h2
      have h4 : (r + 1) * wn ≤ rn * wn := Nat.mul_le_mul_right wn (by omega)
      rw [Nat.add_mul, Nat.one_mul] at h4
      omega
    · have : wn = 0 := by omega
      subst this
      simp
  · obtain ⟨_, h1⟩ := h (by omega)
    have h4 : r * cn ≤ (rn - 1) * cn := Nat.mul_le_mul_right cn (by omega)
    have e : ((rn : Int) - 1) * (cn : Int) = (((rn - 1) * cn : Nat) : Int) := by
      have : ((rn : Int) - 1) = ((rn - 1 : Nat) : Int) := by omega
      rw [this]
      exact (Int.natCast_mul _ _).symm
    rw [e] at h1
    omega

theorem load24 (Pt : Nat → Prop) (q : Nat) (g : GA) (X : Fin 3 → List Value) (ce : List Value) (l lm cn wn m : Nat) (w : World) (H : Gr Pt q g X w) (hce : Rs Pt IsU ce g.ce.ao g.ce.n g.ce.c w) (hld : g.ld = l) (hcc : g.c = cn) (hww : g.wd = wn) (han : g.a.n = wn)
    (hX : ∀ i, ∀ v ∈ X i, IsU v) (hr : g.r = lm ∨ (g.r ≤ l ∧ lm = l)) (L : Ld l lm cn wn g.h.n g.u.n g.ce.n) (hm : lm = l + m) :
    Calls Try.prog 24 #[.pointer (some ⟨q, 0, none⟩)] w fun e w' => e = .returned (.tuple #[]) ∧ Kept Pt w w' ∧ Gr Pt q (gl g lm) (XS X (rowsF ce (X 1) cn wn l m (X 0, X 2))) w' := by
  subst hm
  exact zzLoadRows (fun _ w' => Kept Pt w w' ∧ Gr Pt q (gl g (l + m)) (XS X (rowsF ce (X 1) cn wn l m (X 0, X 2))) w') q w
    (loadRows Pt q g X ce l cn wn m w H hce hld hcc hww han L.u hX (by omega) (fun h => L.top (by omega)) L.c L.w L.hh L.hcs)

theorem XS_isU {X : Fin 3 → List Value} {st : List Value × List Value} {nh nu : Nat} (h : StOk nh nu st) (hX : ∀ v ∈ X 1, IsU v) : ∀ i, ∀ v ∈ XS X st i, IsU v := fun i => by
  match i with
  | 0 => rw [XS_0]; exact h.t1
  | 1 => rw [XS_1]; exact hX
  | 2 => rw [XS_2]; exact h.t2

/-- All eight slices behind loadRows. -/
theorem Cl.after8 {g g' g2 : GA} {x : GX} {B m1 m2 m3 q : Nat} {X : Fin 3 → List Value} {w w' : World} (h : Cl g x B m1 m2 m3 g' w) (t : Ty x) (k : Kept (PtC B m3 w.heap.size) w w') (G : Gr (PtC B m3 w.heap.size) q g2 X w')
    (hX : ∀ i, ∀ v ∈ X i, IsU v) (e1 : g2.ce = g'.ce) (e2 : g2.ch = g'.ch) (e3 : g2.co = g'.co) (e4 : g2.ss = g'.ss) (e5 : g2.sk = g'.sk) :
    GRd (fun k => k < w'.heap.size) g2 ⟨X 0, X 1, X 2, x.ce, x.ch, x.co, x.sk, x.ss⟩ w' := by
  have s := h.after t k G hX e1 e2 e3 e4
  refine ⟨s.h, s.a, s.u, s.ce, s.ch, s.co, ?_, s.ss⟩
  rw [e5]
  exact (((h.sk.rs t.sk).mono (Qt := PtC B m3 w.heap.size) fun i hi => Or.inr hi).kept k).mono fun i hi => G.inn i hi
/-- The clone's cells, protected. -/
theorem Cl.cells {g g' : GA} {x : GX} {B m1 m2 m3 : Nat} {w w' : World} (h : Cl g x B m1 m2 m3 g' w) (t : Ty x) (k : Kept (PtC B m3 w.heap.size) w w') : Rs (PtC B m3 w.heap.size) IsU x.ce g'.ce.ao g'.ce.n g'.ce.c w' :=
  ((h.ce.rs t.ce).mono fun _ hi => Or.inr hi).kept k

/-- The Grid built again over the same rows. -/
theorem Gr.again {Pt : Nat → Prop} {q : Nat} {g g' : GA} {X : Fin 3 → List Value} {w w1 w' : World} (h : Gr Pt q g X w) (b : Below w.heap.size w w1) (hs : g'.sl = g.sl) (hw : w' = (w1.alloc (.cells g'.cells 26)).alloc (.cells g'.cells 52)) :
    Gr Pt (w1.heap.size + 1) g' X w' ∧ Kept Pt w w' := by
  have sz := b.size
  have sz2 : w'.heap.size = w1.heap.size + 2 := by rw [hw]; simp
  have hk : ∀ k, k < w.heap.size → w'.heap[k]? = w.heap[k]? := fun k hk => by
    rw [hw, Below.heap_alloc _ _ _ (by simp; omega), Below.heap_alloc _ _ _ (by omega)]
    exact b.block k hk
  refine ⟨⟨?_, fun hp => ?_, fun k hp => ?_, fun i => ?_, fun i k e => ?_, fun i j hij k e => ?_⟩, ?_⟩
  · have e : w1.heap.size + 1 = (w1.alloc (.cells g'.cells 26)).heap.size := by simp
    rw [hw, e]
    exact heap_alloc_new _ _
  · have := h.inn _ hp; omega
  · have := h.inn k hp; omega
  · rw [hs]
    exact own_keep (h.own i) fun k e => hk k (own_lt (h.own i) e)
  · rw [hs] at e
    exact ⟨(h.away i k e).1, by have := own_lt (h.own i) e; omega⟩
  · rw [hs] at e ⊢
    exact h.apart i j hij k e
  · refine ⟨by rw [hw]; exact b.os, by rw [hw]; exact b.tape, by rw [hw]; exact b.output, by omega, fun k hp => hk k (h.inn k hp)⟩

/-- Two rows of the caller's own. -/
structure Er (Pt : Nat → Prop) (s1 s2 : SV) (st : List Value × List Value) (w : World) : Prop where
  inn : ∀ k, Pt k → k < w.heap.size
  o1 : w.ownsRow 0 41 1 s1.v s1.n st.1
  o2 : w.ownsRow 0 41 1 s2.v s2.n st.2
  a1 : ∀ k, s1.v.ownBlock = some k → ¬ Pt k
  a2 : ∀ k, s2.v.ownBlock = some k → ¬ Pt k
  ap : ∀ k, s1.v.ownBlock = some k → s2.v.ownBlock ≠ some k
theorem Er.same {Pt : Nat → Prop} {s1 s2 : SV} {st : List Value × List Value} {w w' : World} (h : Er Pt s1 s2 st w) (e : w'.heap = w.heap) : Er Pt s1 s2 st w' :=
  ⟨fun k hk => by rw [e]; exact h.inn k hk, own_keep h.o1 fun _ _ => by rw [e], own_keep h.o2 fun _ _ => by rw [e], h.a1, h.a2, h.ap⟩
theorem own_elt {w : World} {s : SV} {xs : List Value} (h : w.ownsRow 0 41 1 s.v s.n xs) (j : Nat) (hj : j < s.n) :
    ∃ b cap, s = ⟨some ⟨b, 0, none⟩, s.n, cap⟩ ∧ w.cell? ⟨b, j, none⟩ = some (xs.getD j undef) ∧ w.frozen? ⟨b, j, none⟩ = false ∧ s.n ≤ cap ∧ cap ≤ 9223372036854775807 ∧ s.v.ownBlock = some b ∧
      ∀ x : Value, (w.setCell ⟨b, j, none⟩ x).ownsRow 0 41 1 s.v s.n (xs.set j x) := by
  obtain ⟨hl, ⟨hv, h0⟩ | ⟨b, cap, cur, hv, hb, hg, hnc, hcm, hcs, htk⟩⟩ := h
  · omega
  · rw [Nat.mul_one] at hl hcs htk
    refine ⟨b, cap, ?_, ?_, Lib.frozen_of_heap hg j, hnc, by unfold maxLen at hcm; omega, by rw [hv]; rfl, fun x => ?_⟩
    · unfold SV.v at hv
      simp only [Value.slice.injEq] at hv
      cases s with
      | mk ao n c => simp only at hv; obtain ⟨rfl, _, rfl⟩ := hv; rfl
    · rw [Lib.cell_of_heap hg, ← htk]
      have : j < cur.size := by omega
      simp [List.getD, hj, this]
    · refine ⟨by rw [List.length_set, Nat.mul_one]; exact hl, .inr ⟨b, cap, cur.setIfInBounds j x, hv, hb, Lib.heap_setCell_same (i := j) hg x, hnc, hcm, by simpa using hcs, ?_⟩⟩
      rw [Nat.mul_one, Array.toList_setIfInBounds, ← htk, List.take_set]
theorem Er.elt1 {Pt : Nat → Prop} {s1 s2 : SV} {st : List Value × List Value} {w : World} (h : Er Pt s1 s2 st w) (j : Nat) (hj : j < s1.n) :
    ∃ b cap, s1 = ⟨some ⟨b, 0, none⟩, s1.n, cap⟩ ∧ w.cell? ⟨b, j, none⟩ = some (st.1.getD j undef) ∧ w.frozen? ⟨b, j, none⟩ = false ∧ s1.n ≤ cap ∧ cap ≤ 9223372036854775807 ∧
      ∀ x : Value, Er Pt s1 s2 (st.1.set j x, st.2) (w.setCell ⟨b, j, none⟩ x) ∧ Kept Pt w (w.setCell ⟨b, j, none⟩ x) := by
  obtain ⟨b, cap, e, c, f, h1, h2, ob, up⟩ := own_elt h.o1 j hj
  exact ⟨b, cap, e, c, f, h1, h2, fun x => ⟨⟨fun k hk => by simpa [World.setCell] using h.inn k hk, up x, own_keep h.o2 fun k hk => Below.heap_setCell _ _ _ _ (fun e2 => h.ap b ob (by rw [hk]; exact congrArg some e2)), h.a1, h.a2, h.ap⟩, (Kept.refl Pt w).setCell (p := ⟨b, j, none⟩) (h.a1 b ob) x⟩⟩
theorem Er.elt2 {Pt : Nat → Prop} {s1 s2 : SV} {st : List Value × List Value} {w : World} (h : Er Pt s1 s2 st w) (j : Nat) (hj : j < s2.n) :
    ∃ b cap, s2 = ⟨some ⟨b, 0, none⟩, s2.n, cap⟩ ∧ w.cell? ⟨b, j, none⟩ = some (st.2.getD j undef) ∧ w.frozen? ⟨b, j, none⟩ = false ∧ s2.n ≤ cap ∧ cap ≤ 9223372036854775807 ∧
      ∀ x : Value, Er Pt s1 s2 (st.1, st.2.set j x) (w.setCell ⟨b, j, none⟩ x) ∧ Kept Pt w (w.setCell ⟨b, j, none⟩ x) := by
  obtain ⟨b, cap, e, c, f, h1, h2, ob, up⟩ := own_elt h.o2 j hj
  exact ⟨b, cap, e, c, f, h1, h2, fun x => ⟨⟨fun k hk => by simpa [World.setCell] using h.inn k hk, own_keep h.o1 fun k hk => Below.heap_setCell _ _ _ _ (fun e2 => h.ap k hk (by rw [ob]; exact congrArg some e2.symm)), up x, h.a1, h.a2, h.ap⟩, (Kept.refl Pt w).setCell (p := ⟨b, j, none⟩) (h.a2 b ob) x⟩⟩

end Go.Proofs.Qxb6617129a
