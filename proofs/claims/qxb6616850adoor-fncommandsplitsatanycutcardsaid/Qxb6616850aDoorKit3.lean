/-
  A []string argument, opened.
-/
import Derived.Test.Qxb6616850aDoorKit2
import Derived.Test.Qxb6616850aDoorCmd
import Derived.SliceStrings
import Derived.Carry
namespace Go.Proofs.Qxb6616850aDoor
open Go.ChangeShapes Go.WideShapes Go.ChangeAt Go.WideMaps Go.WideElems Go.RowKit

theorem cells9 : Tryd.prog.cellsOf 9 = 1 := by kernel_rfl

theorem args_of_trod {H : Type} {enc : TypeId × Value → H} {W : World} {d0 : DataW H} {p : List MemPlace} {a0 : Option Addr} {len cap : Nat} (h0 : DataW.Trod enc Tryd.prog W 0 (fun _ => true) true 42 (.slice a0 len cap) d0 p) (hlt : ∀ x ∈ p, x.block < W.heap.size) :
    ∃ L, Args (fun k => k < W.heap.size) L a0 len cap W ∧ ∀ k, (L.getD k ByteArray.empty).size ≤ maxLen := by
  obtain ⟨fuel, hf⟩ := h0
  rcases open_strings Tryd.underlying42 Tryd.underlying9 cells9 hf with ⟨hcs, hx⟩ | ⟨a, len', cap', ss, hcs, _, hl, hm, hz, hx, hcell, hws⟩
  · simp [Value.cells] at hcs
    obtain ⟨rfl, rfl, rfl⟩ := hcs
    exact ⟨[], ⟨rfl, Nat.le_refl _, by omega, fun h => by omega⟩, fun k => by simp [List.getD]⟩
  · simp [Value.cells] at hcs
    obtain ⟨rfl, rfl, rfl⟩ := hcs
    simp only [Prod.mk.injEq] at hx
    obtain ⟨rfl, rfl⟩ := hx
    simp only [if_true] at hz
    refine ⟨ss.take len, ⟨by rw [List.length_take]; omega, hl, by unfold maxLen at hm; omega, fun hn => ?_⟩, fun k => ?_⟩
    · obtain ⟨b, off, spot⟩ := a
      have hspot : spot = none := by simpa [Addr.add] using World.cell?_spot (hcell 0 (by omega))
      subst hspot
      refine ⟨b, off, rfl, hlt (.cell b off) (MemPlace.mem_row.2 ⟨0, by omega, by simp⟩), fun j hj => ?_⟩
      have e : (ss.take len).getD j ByteArray.empty = ss.getD j ByteArray.empty := by simp [List.getD, hj]
      rw [e, ← add_plain]
      exact hcell j (by omega)
    · by_cases hk : k < (ss.take len).length
      · have e : (ss.take len).getD k ByteArray.empty = (ss.take len)[k] := by simp [List.getD, List.getElem?_eq_getElem hk]
        rw [e]
        exact hws _ (List.mem_of_mem_take (List.getElem_mem hk))
      · have e : (ss.take len).getD k ByteArray.empty = ByteArray.empty := by simp [List.getD, List.getElem?_eq_none (by omega : (ss.take len).length ≤ k)]
        rw [e]
        exact Nat.zero_le _

end Go.Proofs.Qxb6616850aDoor
