/-
  Worlds, no dump: 'Kept', 'Rs' (a slice that reads as a list of cells), 'Hush' (draws only), rows.
-/
import Derived.Lib.BufferOwn
import Derived.Lib.BufferWrite
import Derived.Lib.Hide
import Derived.WalkKit
import Derived.Deep.Draws
import Derived.Laws.MakeOwn
namespace Go.Proofs.Qxb6617129a
open Go.RowKit

/-- The protected blocks stand as they stood; the streams too; no block has gone. -/
structure Kept (Pt : Nat → Prop) (w w' : World) : Prop where
  os : w'.os = w.os
  tape : w'.tape = w.tape
  output : w'.output = w.output
  size : w.heap.size ≤ w'.heap.size
  block : ∀ k, Pt k → w'.heap[k]? = w.heap[k]?

theorem Kept.refl (Pt : Nat → Prop) (w : World) : Kept Pt w w := ⟨rfl, rfl, rfl, Nat.le_refl _, fun _ _ => rfl⟩
theorem Kept.trans {Pt : Nat → Prop} {a b c : World} (h : Kept Pt a b) (k : Kept Pt b c) : Kept Pt a c :=
  ⟨k.os.trans h.os, k.tape.trans h.tape, k.output.trans h.output, Nat.le_trans h.size k.size, fun i hi => (k.block i hi).trans (h.block i hi)⟩
theorem Kept.mono {Pt Qt : Nat → Prop} {a b : World} (h : Kept Pt a b) (k : ∀ i, Qt i → Pt i) : Kept Qt a b :=
  ⟨h.os, h.tape, h.output, h.size, fun i hi => h.block i (k i hi)⟩
theorem Kept.drewN {Pt : Nat → Prop} {a w : World} (h : Kept Pt a w) (n : Nat) : Kept Pt a (w.drewN n) := ⟨h.os, h.tape, h.output, h.size, h.block⟩
theorem Kept.offDrew {Pt : Nat → Prop} {a w : World} (h : Kept Pt a.drew w) : Kept Pt a w := ⟨h.os, h.tape, h.output, h.size, h.block⟩
theorem Kept.offDrewN {Pt : Nat → Prop} {a w : World} {n : Nat} (h : Kept Pt (a.drewN n) w) : Kept Pt a w := ⟨h.os, h.tape, h.output, h.size, h.block⟩
theorem Kept.setCell {Pt : Nat → Prop} {a w : World} (h : Kept Pt a w) {p : Addr} (hp : ¬ Pt p.block) (u : Value) : Kept Pt a (w.setCell p u) :=
  h.trans ⟨rfl, rfl, rfl, by simp [World.setCell], fun k hk => Below.heap_setCell _ _ _ _ (fun e => hp (e ▸ hk))⟩
theorem Kept.alloc {Pt : Nat → Prop} {a w : World} (h : Kept Pt a w) (hi : ∀ k, Pt k → k < a.heap.size) (o : Obj) : Kept Pt a (w.alloc o) :=
  h.trans ⟨rfl, rfl, rfl, by simp, fun k hk => Below.heap_alloc _ _ _ (Nat.lt_of_lt_of_le (hi k hk) h.size)⟩
theorem Kept.below {Pt : Nat → Prop} {a w w' : World} (h : Kept Pt a w) (hi : ∀ k, Pt k → k < a.heap.size) (hb : Below w.heap.size w w') : Kept Pt a w' :=
  h.trans ⟨hb.os, hb.tape, hb.output, hb.size, fun k hk => hb.block k (Nat.lt_of_lt_of_le (hi k hk) h.size)⟩
theorem Kept.grown {Pt : Nat → Prop} {a w w' : World} {row : Option Nat} (h : Kept Pt a w) (hi : ∀ k, Pt k → k < a.heap.size) (hg : w.grownBy w' row) (hr : ∀ k, row = some k → ¬ Pt k) : Kept Pt a w' :=
  h.trans ⟨hg.os, hg.tape, hg.output, hg.size, fun k hk => hg.block k (Nat.lt_of_lt_of_le (hi k hk) h.size) (fun e => hr k e.symm hk)⟩
theorem Kept.cell {Pt : Nat → Prop} {w w' : World} (h : Kept Pt w w') {p : Addr} (hp : Pt p.block) : w'.cell? p = w.cell? p := World.cell?_of_block (w := w) (h.block p.block hp)
theorem Kept.toBelow {Pt : Nat → Prop} {w w' : World} (h : Kept Pt w w') {B : Nat} (hB : ∀ k, k < B → Pt k) : Below B w w' :=
  ⟨h.os, h.tape, h.output, h.size, fun k hk => h.block k (hB k hk)⟩

/-- Draws only. -/
def Hush (w w' : World) : Prop := ∃ n, w' = w.drewN n
theorem Hush.refl (w : World) : Hush w w := ⟨0, rfl⟩
theorem Hush.drewN {w w' : World} (h : Hush w w') (n : Nat) : Hush w (w'.drewN n) := by
  obtain ⟨m, rfl⟩ := h
  exact ⟨m + n, by simp [World.drewN, Nat.add_assoc]⟩
theorem Hush.heap {w w' : World} (h : Hush w w') : w'.heap = w.heap := by obtain ⟨n, rfl⟩ := h; rfl
theorem Hush.cell {w w' : World} (h : Hush w w') (a : Addr) : w'.cell? a = w.cell? a := by obtain ⟨n, rfl⟩ := h; rfl
theorem Hush.below {w w' : World} (h : Hush w w') (B : Nat) : Below B w w' := by obtain ⟨n, rfl⟩ := h; exact ⟨rfl, rfl, rfl, Nat.le_refl _, fun _ _ => rfl⟩
theorem Hush.kept {w w' : World} (h : Hush w w') (Pt : Nat → Prop) : Kept Pt w w' := by obtain ⟨n, rfl⟩ := h; exact (Kept.refl Pt w).drewN n
theorem Hush.trans {w w' w2 : World} (h : Hush w w') (k : Hush w' w2) : Hush w w2 := by
  obtain ⟨n, rfl⟩ := k
  exact h.drewN n

/-- A uint64's cell, an int's, a bool's. -/
def IsU (x : Value) : Prop := ∃ z : Nat, x = .int .u64 (z : Int) ∧ z < 18446744073709551616
def IsI (x : Value) : Prop := ∃ z : Int, x = .int .i64 z
def IsB (x : Value) : Prop := ∃ b : Bool, x = .bool b

/-- A slice that reads as xs; where it holds something its row lies in a protected block. -/
structure Rs (Pt : Nat → Prop) (T : Value → Prop) (xs : List Value) (ao : Option Addr) (n c : Nat) (w : World) : Prop where
  len : xs.length = n
  le : n ≤ c
  max : c ≤ 9223372036854775807
  ty : ∀ x ∈ xs, T x
  nil : ao = none → n = 0 ∧ c = 0
  at_ : 0 < n → ∃ g o, ao = some ⟨g, o, none⟩ ∧ Pt g ∧ ∀ j, j < n → w.cell? ⟨g, o + j, none⟩ = some (xs.getD j undef)

section
variable {Pt Qt : Nat → Prop} {T : Value → Prop} {xs : List Value} {ao : Option Addr} {n c : Nat} {w w' : World}
theorem Rs.kept (h : Rs Pt T xs ao n c w) (k : Kept Pt w w') : Rs Pt T xs ao n c w' :=
  ⟨h.len, h.le, h.max, h.ty, h.nil, fun hn => by
    obtain ⟨g, o, e, p, q⟩ := h.at_ hn
    exact ⟨g, o, e, p, fun j hj => (k.cell (p := ⟨g, o + j, none⟩) p).trans (q j hj)⟩⟩
theorem Rs.mono (h : Rs Pt T xs ao n c w) (k : ∀ i, Pt i → Qt i) : Rs Qt T xs ao n c w :=
  ⟨h.len, h.le, h.max, h.ty, h.nil, fun hn => by
    obtain ⟨g, o, e, p, q⟩ := h.at_ hn
    exact ⟨g, o, e, k g p, q⟩⟩
theorem Rs.hush (h : Rs Pt T xs ao n c w) (q : Hush w w') : Rs Pt T xs ao n c w' := h.kept (q.kept Pt)
theorem Rs.elt (h : Rs Pt T xs ao n c w) {j : Nat} (hj : j < n) : T (xs.getD j undef) := by
  have hl : j < xs.length := by rw [h.len]; exact hj
  have e : xs.getD j undef = xs[j] := by simp [List.getD, List.getElem?_eq_getElem hl]
  rw [e]
  exact h.ty _ (List.getElem_mem hl)
end

/-- What an own row reads as. -/
theorem rs_of_own {T : Value → Prop} {w : World} {e : TypeId} {v : Value} {n : Nat} {xs : List Value} (h : w.ownsRow 0 e 1 v n xs) (ht : ∀ x ∈ xs, T x) :
    ∃ ao c, v = .slice ao n c ∧ Rs (fun k => v.ownBlock = some k) T xs ao n c w := by
  obtain ⟨hl, h | ⟨g, cap, cur, rfl, hb, hg, hnc, hcm, hcs, htk⟩⟩ := h
  · obtain ⟨rfl, rfl⟩ := h
    exact ⟨none, 0, rfl, by simpa using hl, Nat.le_refl _, by omega, ht, fun _ => ⟨rfl, rfl⟩, fun h => by omega⟩
  · refine ⟨some ⟨g, 0, none⟩, cap, rfl, by simpa using hl, hnc, by unfold maxLen at hcm; omega, ht, (fun h => by cases h), fun h0 => ⟨g, 0, rfl, rfl, fun j hj => ?_⟩⟩
    have hcl : j < cur.toList.length := by rw [Array.length_toList, hcs]; omega
    rw [Nat.zero_add, Lib.cell_of_heap hg, ← htk]
    simp only [List.getD, List.getElem?_take, Nat.mul_one, if_pos hj]
    simp [hcs, Nat.lt_of_lt_of_le hj hnc]

theorem row_step {xs : List Value} {E N k : Nat} {arr : Array Value} {wr : World} (hN : wr.heap[N]? = some (.cells arr E (0, 0))) (ha : arr.size = xs.length) (ht : arr.toList.take k = xs.take k) (hk : k < xs.length) :
    ∃ arr2 : Array Value, (wr.setCell ⟨N, k, none⟩ (xs.getD k undef)).heap[N]? = some (.cells arr2 E (0, 0)) ∧ arr2.size = xs.length ∧ arr2.toList.take (k + 1) = xs.take (k + 1) := by
  refine ⟨arr.setIfInBounds k (xs.getD k undef), Lib.heap_setCell_same (i := k) hN _, by simpa using ha, ?_⟩
  have hll : k < arr.toList.length := by have : arr.toList.length = arr.size := Array.length_toList; omega
  rw [Array.toList_setIfInBounds, List.take_add_one, List.take_set_of_le (Nat.le_refl _), List.getElem?_set_self hll, ht, List.take_add_one, List.getElem?_eq_getElem hk]
  simp [List.getD, List.getElem?_eq_getElem hk]

/-- A row of its own, as long as it reads. -/
def Exact (v : Value) (n : Nat) : Prop := (v = .slice none 0 0 ∧ n = 0) ∨ ∃ g, v = .slice (some ⟨g, 0, none⟩) n n

end Go.Proofs.Qxb6617129a
