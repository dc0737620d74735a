/-
  The word whose k lowest bits are set; the row 'all' while it is filled.
-/
import Derived.Test.Qxb6617129aGrid
import Derived.Laws.Bits64b
namespace Go.Proofs.Qxb6617129a
open Go.RowKit

theorem low_zero : low 0 = 0 := rfl
theorem low_lt (k : Nat) : low k < 18446744073709551616 := by
  unfold low
  have : 2 ^ (min 64 k) ≤ 2 ^ 64 := Nat.pow_le_pow_right (by omega) (Nat.min_le_left _ _)
  omega
theorem low_bit (k i : Nat) : (low k).testBit i = decide (i < min 64 k) := by unfold low; exact Nat.testBit_two_pow_sub_one ..
theorem low_succ (t : Nat) (h : t < 64) : low t ||| 2 ^ t = low (t + 1) := by
  apply Nat.eq_of_testBit_eq
  intro i
  rw [Nat.testBit_or, low_bit, low_bit, Nat.testBit_two_pow, Nat.min_eq_right (by omega), Nat.min_eq_right (by omega)]
  by_cases h1 : i < t
  · simp [h1]; omega
  · by_cases h2 : t = i
    · simp [h2]
    · simp [h1, h2]; omega

theorem or_low (t : Nat) (h : t < 64) : bits .or .u64 ((low t : Nat) : Int) (IntKind.u64.wrap (2 ^ t)) = ((low (t + 1) : Nat) : Int) := by
  have hl := low_lt t
  have hs := low_succ t h
  have hp : 2 ^ t ≤ 2 ^ 63 := Nat.pow_le_pow_right (by omega) (by omega)
  have e1 : (2 : Int) ^ t = ((2 ^ t : Nat) : Int) := by simp
  rw [e1]
  generalize 2 ^ t = P at hs hp
  have hp2 : P < 18446744073709551616 := by omega
  rw [IntWalk.u64_in (P : Int) (by omega), bits_or_u64_nat _ _ hl hp2, hs]

/-- 'all' when the columns below k are in. -/
def allL (k wn : Nat) : List Value := (List.range wn).map fun i => .int .u64 ((low (k - 64 * i) : Nat) : Int)
theorem allL_length (k wn : Nat) : (allL k wn).length = wn := by simp [allL]
theorem allL_zero (wn : Nat) : allL 0 wn = zeros wn := by
  apply List.ext_getElem
  · simp [allL, zeros]
  · intro i h1 h2
    simp [allL, zeros, low_zero]
theorem allL_getD (k wn i : Nat) (h : i < wn) : (allL k wn).getD i undef = .int .u64 ((low (k - 64 * i) : Nat) : Int) := by simp [allL, List.getD, h]
theorem allL_isU (k wn : Nat) : ∀ x ∈ allL k wn, IsU x := fun x hx => by
  rw [allL, List.mem_map] at hx
  obtain ⟨i, _, rfl⟩ := hx
  exact ⟨_, rfl, low_lt _⟩
theorem low_same (a b : Nat) (h : min 64 a = min 64 b) : low a = low b := by unfold low; rw [h]
theorem allL_succ (k wn : Nat) : (allL k wn).set (k / 64) (.int .u64 ((low (k % 64 + 1) : Nat) : Int)) = allL (k + 1) wn := by
  apply List.ext_getElem
  · simp [allL]
  · intro i h1 h2
    have hi : i < wn := by simpa [allL] using h2
    rw [List.getElem_set]
    by_cases he : k / 64 = i
    · rw [if_pos he]
      simp only [allL, List.getElem_map, List.getElem_range]
      rw [show k + 1 - 64 * i = k % 64 + 1 by omega]
    · rw [if_neg he]
      simp only [allL, List.getElem_map, List.getElem_range]
      rw [low_same (k - 64 * i) (k + 1 - 64 * i) (by omega)]

section
variable {Pt : Nat → Prop} {q : Nat} {g : GA} {X : Fin 3 → List Value} {w : World}

/-- A word of a row, read. -/
theorem Gr.elt (h : Gr Pt q g X w) (i : Fin 3) (j : Nat) (hj : j < (g.sl i).n) :
    ∃ b cap, g.sl i = ⟨some ⟨b, 0, none⟩, (g.sl i).n, cap⟩ ∧ w.cell? ⟨b, j, none⟩ = some ((X i).getD j undef) ∧ w.frozen? ⟨b, j, none⟩ = false ∧ (g.sl i).n ≤ cap ∧ cap ≤ 9223372036854775807 ∧
      (∀ x : Value, Gr Pt q g (putX X i ((X i).set j x)) (w.setCell ⟨b, j, none⟩ x) ∧ Kept Pt w (w.setCell ⟨b, j, none⟩ x)) := by
  obtain ⟨hl, ⟨hv, h0⟩ | ⟨b, cap, cur, hv, hb, hg, hnc, hcm, hcs, htk⟩⟩ := h.own i
  · omega
  · rw [Nat.mul_one] at hl hcs htk
    have hob : (g.sl i).v.ownBlock = some b := by rw [hv]; rfl
    have haw := h.away i b hob
    refine ⟨b, cap, ?_, ?_, Lib.frozen_of_heap hg j, hnc, by unfold maxLen at hcm; omega, fun x => ⟨⟨?_, h.pq, fun k hk => by simpa [World.setCell] using h.inn k hk, fun l => ?_, h.away, h.apart⟩, (Kept.refl Pt w).setCell (p := ⟨b, j, none⟩) haw.1 x⟩⟩
    · unfold SV.v at hv
      simp only [Value.slice.injEq] at hv
      cases hs : g.sl i with
      | mk ao n c => rw [hs] at hv; simp only at hv; obtain ⟨rfl, _, rfl⟩ := hv; rfl
    · rw [Lib.cell_of_heap hg, ← htk]
      have : j < cur.size := by omega
      simp [List.getD, hj, this]
    · rw [Below.heap_setCell _ _ _ _ (Ne.symm haw.2)]
      exact h.blk
    · by_cases hli : l = i
      · subst hli
        rw [putX_self]
        refine ⟨by rw [List.length_set, Nat.mul_one]; exact hl, .inr ⟨b, cap, cur.setIfInBounds j x, hv, hb, Lib.heap_setCell_same (i := j) hg x, hnc, hcm, by simpa using hcs, ?_⟩⟩
        rw [Nat.mul_one, Array.toList_setIfInBounds, ← htk, List.take_set]
      · rw [putX_other _ _ _ _ hli]
        exact own_keep (h.own l) fun k hk => Below.heap_setCell _ _ _ _ (fun e => h.apart l i hli k hk (by rw [hob]; exact congrArg some e.symm))
end

theorem Gr.alloc {Pt : Nat → Prop} {q : Nat} {g : GA} {X : Fin 3 → List Value} {w : World} (h : Gr Pt q g X w) (o : Obj) : Gr Pt q g X (w.alloc o) := by
  have hb : Below w.heap.size w (w.alloc o) := (Below.refl _ w).alloc (Nat.le_refl _) o
  exact ⟨(hb.block q h.lt).trans h.blk, h.pq, fun k hk => Nat.lt_of_lt_of_le (h.inn k hk) hb.size, fun i => own_keep (h.own i) fun k hk => hb.block k (own_lt (h.own i) hk), h.away, h.apart⟩

theorem putX_id (X : Fin 3 → List Value) (i : Fin 3) (a : List Value) (h : X i = a) : putX X i a = X := by
  funext j
  unfold putX
  by_cases hj : j = i
  · subst hj; simp [h]
  · simp [hj]

theorem putX_putX (X : Fin 3 → List Value) (i : Fin 3) (a b : List Value) : putX (putX X i a) i b = putX X i b := by
  funext j
  unfold putX
  by_cases h : j = i <;> simp [h]

end Go.Proofs.Qxb6617129a
