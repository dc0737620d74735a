/-
  A Grid in memory, its three written rows told: 'Gr'.
-/
import Derived.Test.Qxb6617129aArg
namespace Go.Proofs.Qxb6617129a
open Go.RowKit

def SV.v (s : SV) : Value := .slice s.ao s.n s.c
def GA.sl (g : GA) : Fin 3 → SV
  | 0 => g.h
  | 1 => g.a
  | 2 => g.u
def GA.put (g : GA) (i : Fin 3) (s : SV) : GA :=
  match i with
  | 0 => { g with h := s }
  | 1 => { g with a := s }
  | 2 => { g with u := s }
theorem GA.put_self (g : GA) (i : Fin 3) (s : SV) : (g.put i s).sl i = s := by
  match i with
  | 0 => rfl
  | 1 => rfl
  | 2 => rfl
theorem GA.put_other (g : GA) (i j : Fin 3) (s : SV) (h : j ≠ i) : (g.put i s).sl j = g.sl j := by
  match i, j, h with
  | 0, 0, h => exact absurd rfl h
  | 0, 1, _ => rfl
  | 0, 2, _ => rfl
  | 1, 0, _ => rfl
  | 1, 1, h => exact absurd rfl h
  | 1, 2, _ => rfl
  | 2, 0, _ => rfl
  | 2, 1, _ => rfl
  | 2, 2, h => exact absurd rfl h
theorem GA.put_cells (g : GA) (i : Fin 3) (s : SV) : g.cells.setIfInBounds (3 + i.val) s.v = (g.put i s).cells := by
  match i with
  | 0 => rfl
  | 1 => rfl
  | 2 => rfl
def putX (X : Fin 3 → List Value) (i : Fin 3) (ys : List Value) : Fin 3 → List Value := fun j => if j = i then ys else X j
theorem putX_self (X : Fin 3 → List Value) (i : Fin 3) (ys : List Value) : putX X i ys i = ys := by simp [putX]
theorem putX_other (X : Fin 3 → List Value) (i j : Fin 3) (ys : List Value) (h : j ≠ i) : putX X i ys j = X j := by simp [putX, h]

/-- A Grid in block q: its rows held, all, union lie in blocks of their own, none of them protected. -/
structure Gr (Pt : Nat → Prop) (q : Nat) (g : GA) (X : Fin 3 → List Value) (w : World) : Prop where
  blk : w.heap[q]? = some (.cells g.cells 52 (0, 0))
  pq : ¬ Pt q
  inn : ∀ k, Pt k → k < w.heap.size
  own : ∀ i, w.ownsRow 0 41 1 (g.sl i).v (g.sl i).n (X i)
  away : ∀ i k, (g.sl i).v.ownBlock = some k → ¬ Pt k ∧ k ≠ q
  apart : ∀ i j, i ≠ j → ∀ k, (g.sl i).v.ownBlock = some k → (g.sl j).v.ownBlock ≠ some k

theorem own_keep {w w' : World} {e n : Nat} {v : Value} {xs : List Value} (h : w.ownsRow 0 e 1 v n xs) (hk : ∀ g, v.ownBlock = some g → w'.heap[g]? = w.heap[g]?) : w'.ownsRow 0 e 1 v n xs := by
  obtain ⟨hl, h | ⟨g, cap, cur, rfl, hb, hg, hnc, hcm, hcs, htk⟩⟩ := h
  · exact ⟨hl, .inl h⟩
  · exact ⟨hl, .inr ⟨g, cap, cur, rfl, hb, (hk g rfl).trans hg, hnc, hcm, hcs, htk⟩⟩
theorem own_lt {w : World} {e n : Nat} {v : Value} {xs : List Value} (h : w.ownsRow 0 e 1 v n xs) {k : Nat} (hk : v.ownBlock = some k) : k < w.heap.size := by
  obtain ⟨hl, ⟨rfl, _⟩ | ⟨g, cap, cur, rfl, hb, hg, hnc, hcm, hcs, htk⟩⟩ := h
  · cases hk
  · simp [Value.ownBlock] at hk
    subst hk
    exact Lib.lt_of_heap hg

section
variable {Pt Qt : Nat → Prop} {q : Nat} {g g' : GA} {X : Fin 3 → List Value} {w w1 w' : World}

theorem Gr.cell (h : Gr Pt q g X w) (j : Nat) (v : Value) (hj : g.cells[j]? = some v) : w.cell? ⟨q, j, none⟩ = some v := by rw [Lib.cell_of_heap h.blk]; exact hj
theorem Gr.frozen (h : Gr Pt q g X w) (j : Nat) : w.frozen? ⟨q, j, none⟩ = false := Lib.frozen_of_heap h.blk j
theorem Gr.lt (h : Gr Pt q g X w) : q < w.heap.size := Lib.lt_of_heap h.blk

/-- A plain field is stored. -/
theorem Gr.field (h : Gr Pt q g X w) (j : Nat) (v : Value) (hs : g'.sl = g.sl) (hc : g.cells.setIfInBounds j v = g'.cells) : Gr Pt q g' X (w.setCell ⟨q, j, none⟩ v) := by
  refine ⟨?_, h.pq, fun k hk => by simpa [World.setCell] using h.inn k hk, fun i => ?_, by rw [hs]; exact h.away, by rw [hs]; exact h.apart⟩
  · rw [← hc]
    exact Lib.heap_setCell_same (i := j) h.blk v
  · rw [hs]
    exact own_keep (h.own i) fun k hk => Below.heap_setCell _ _ _ _ (h.away i k hk).2
theorem Gr.field_kept (h : Gr Pt q g X w) (j : Nat) (v : Value) : Kept Pt w (w.setCell ⟨q, j, none⟩ v) := (Kept.refl Pt w).setCell (p := ⟨q, j, none⟩) h.pq v

theorem Gr.same (h : Gr Pt q g X w) (e : w'.heap = w.heap) : Gr Pt q g X w' :=
  ⟨by rw [e]; exact h.blk, h.pq, fun k hk => by rw [e]; exact h.inn k hk, fun i => own_keep (h.own i) fun _ _ => by rw [e], h.away, h.apart⟩
theorem Gr.drewN (h : Gr Pt q g X w) (n : Nat) : Gr Pt q g X (w.drewN n) := h.same rfl
theorem Gr.hush (h : Gr Pt q g X w) (k : Hush w w') : Gr Pt q g X w' := h.same k.heap

/-- A row is replaced: its field is stored. -/
theorem Gr.step (h : Gr Pt q g X w) (i : Fin 3) (s : SV) (ys : List Value) (hg : w.grownBy w1 (g.sl i).v.ownBlock) (ho : w1.ownsRow 0 41 1 s.v s.n ys) (hb : ∀ k, s.v.ownBlock = some k → (g.sl i).v.ownBlock = some k ∨ w.heap.size ≤ k) :
    Gr Pt q (g.put i s) (putX X i ys) (w1.setCell ⟨q, 3 + i.val, none⟩ s.v) ∧ Kept Pt w (w1.setCell ⟨q, 3 + i.val, none⟩ s.v) := by
  have hq1 : w1.heap[q]? = some (.cells g.cells 52 (0, 0)) := (hg.block q h.lt (fun e => (h.away i q e.symm).2 rfl)).trans h.blk
  have hq2 : ∀ k, s.v.ownBlock = some k → ¬ Pt k ∧ k ≠ q := fun k hk => by
    rcases hb k hk with e | e
    · exact h.away i k e
    · exact ⟨fun hp => by have := h.inn k hp; omega, fun e2 => by have := h.lt; omega⟩
  have hold : ∀ j, j ≠ i → ∀ k, (g.sl j).v.ownBlock = some k → s.v.ownBlock ≠ some k := fun j hj k hk e => by
    rcases hb k e with e2 | e2
    · exact h.apart j i hj k hk e2
    · have := own_lt (h.own j) hk; omega
  refine ⟨⟨?_, h.pq, fun k hk => ?_, fun j => ?_, fun j k hk => ?_, fun j l hjl k hk => ?_⟩, ?_⟩
  · rw [← GA.put_cells]
    exact Lib.heap_setCell_same (i := 3 + i.val) hq1 s.v
  · have := h.inn k hk
    have := hg.size
    simp only [World.setCell, Array.size_modify] 
    omega
  · by_cases hj : j = i
    · subst hj
      rw [GA.put_self, putX_self]
      exact own_keep ho fun k hk => Below.heap_setCell _ _ _ _ (hq2 k hk).2
    · rw [GA.put_other _ _ _ _ hj, putX_other _ _ _ _ hj]
      refine own_keep (h.own j) fun k hk => ?_
      rw [Below.heap_setCell _ _ _ _ (h.away j k hk).2]
      exact hg.block k (own_lt (h.own j) hk) (fun e => h.apart j i hj k hk e.symm)
  · by_cases hj : j = i
    · subst hj
      rw [GA.put_self] at hk
      exact hq2 k hk
    · rw [GA.put_other _ _ _ _ hj] at hk
      exact h.away j k hk
  · by_cases hj : j = i
    · subst hj
      rw [GA.put_self] at hk
      rw [GA.put_other _ _ _ _ (Ne.symm hjl)]
      exact fun e => hold l (Ne.symm hjl) k e hk
    · rw [GA.put_other _ _ _ _ hj] at hk
      by_cases hl : l = i
      · subst hl
        rw [GA.put_self]
        exact hold j hj k hk
      · rw [GA.put_other _ _ _ _ hl]
        exact h.apart j l hjl k hk
  · exact ((Kept.refl Pt w).grown h.inn hg (fun k e => (h.away i k e).1)).setCell (p := ⟨q, 3 + i.val, none⟩) h.pq _

end

end Go.Proofs.Qxb6617129a
