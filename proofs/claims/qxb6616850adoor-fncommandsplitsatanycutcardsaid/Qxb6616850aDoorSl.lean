/-
  The laws' helpers on byte slices, at this dump: zzCopyBytes, zzEqBytes, zzHasPrefix (where they answer true).
-/
import Derived.Test.Qxb6616850aDoorGrow
import Derived.Deep.QuietTactic
import Derived.BigQuiet
namespace Go.Proofs.Qxb6616850aDoor
open Go.RowKit

/-- The byte at a place, as the walk reads it. -/
def byteAt (l : List UInt8) (i : Nat) : Int := ((l.getD i 0).toNat : Int)
/-- The bytes l lie in block g from place o on. -/
def Rd (l : List UInt8) (g o : Nat) (w : World) : Prop := ∀ j, j < l.length → w.cell? ⟨g, o + j, none⟩ = some (.int .u8 (byteAt l j))
/-- Draws alone. -/
def Hush (w w' : World) : Prop := ∃ n, w' = w.drewN n

theorem Hush.refl (w : World) : Hush w w := ⟨0, rfl⟩
theorem Hush.drewN {w w' : World} (h : Hush w w') (n : Nat) : Hush w (w'.drewN n) := by
  obtain ⟨m, rfl⟩ := h
  exact ⟨m + n, by simp⟩
theorem Hush.heap {w w' : World} (h : Hush w w') : w'.heap = w.heap := by obtain ⟨n, rfl⟩ := h; rfl
theorem Hush.cell {w w' : World} (h : Hush w w') (a : Addr) : w'.cell? a = w.cell? a := by obtain ⟨n, rfl⟩ := h; rfl
theorem Hush.below {w w' : World} (h : Hush w w') (B : Nat) : Below B w w' := by obtain ⟨n, rfl⟩ := h; exact ⟨rfl, rfl, rfl, Nat.le_refl _, fun _ _ => rfl⟩
theorem Rd.hush {l : List UInt8} {g o : Nat} {w w' : World} (h : Rd l g o w) (q : Hush w w') : Rd l g o w' := fun j hj => (q.cell _).trans (h j hj)
theorem Rd.kept {l : List UInt8} {g o : Nat} {w w' : World} (h : Rd l g o w) (q : w'.heap[g]? = w.heap[g]?) : Rd l g o w' := fun j hj => (World.cell?_of_block (a := ⟨g, o + j, none⟩) q).trans (h j hj)
theorem Rd.of_row {l : List UInt8} {g : Nat} {w : World} {cur : Array Value} (hg : w.heap[g]? = some (.cells cur 5 (0, 0))) (ht : cur.toList.take l.length = Lib.byteCells l) : Rd l g 0 w := by
  intro j hj
  have h := Lib.cells_of_row hg l.length j (.int .u8 (byteAt l j)) (by
    rw [ht]
    simp [Lib.byteCells, byteAt, List.getD, List.getElem?_eq_getElem hj])
  rw [Lib.addr_add] at h
  exact h
theorem Rd.of_cells {l : List UInt8} {g : Nat} {w : World} (hg : w.heap[g]? = some (.cells (Lib.byteCells l).toArray 5 (0, 0))) : Rd l g 0 w :=
  Rd.of_row hg (by rw [List.toList_toArray]; exact List.take_of_length_le (by rw [Lib.byteCells_length]; exact Nat.le_refl _))
/-- A part of what is read. -/
theorem Rd.drop {l : List UInt8} {g o : Nat} {w : World} (h : Rd l g o w) (k : Nat) : Rd (l.drop k) g (o + k) w := by
  intro j hj
  rw [List.length_drop] at hj
  have := h (k + j) (by omega)
  rw [← Nat.add_assoc] at this
  rw [this]
  simp [byteAt, List.getD, List.getElem?_drop]
theorem Rd.take {l : List UInt8} {g o : Nat} {w : World} (h : Rd l g o w) (k : Nat) : Rd (l.take k) g o w := by
  intro j hj
  rw [List.length_take] at hj
  rw [h j (by omega)]
  simp only [byteAt, List.getD, List.getElem?_take]
  rw [if_pos (by omega)]

set_option maxHeartbeats 400000 in
/-- zzEqBytes on two slices that hold the same bytes. -/
theorem eqBytes (l : List UInt8) (g1 o1 c1 g2 o2 c2 : Nat) (w : World) (h1 : Rd l g1 o1 w) (h2 : Rd l g2 o2 w) (hl : l.length ≤ 140737488355328) :
    Calls Tryd.prog 19 #[.slice (some ⟨g1, o1, none⟩) l.length c1, .slice (some ⟨g2, o2, none⟩) l.length c2] w fun e w' => e = .returned (.bool true) ∧ Hush w w' := by
  go_enter Tryd.func19, Tryd.ntmps19
  go_wp2
  go_loopw [5] (fun i wr => ∃ k : Nat, k ≤ l.length ∧ i = .int .i64 k ∧ Hush w wr) (fun i _ => l.length - (intOf i).toNat)
  case atStart => exact ⟨0, Nat.zero_le _, rfl, Hush.refl _⟩
  case round =>
    obtain ⟨k, hk, rfl, hq⟩ := hrel
    by_cases hlt : k < l.length
    · have d1 := (h1.hush hq) k hlt
      have d2 := (h2.hush hq) k hlt
      have b1 : (k : Int) < l.length := by omega
      have b0 : (0 : Int) ≤ k := by omega
      go_wp2
      go_quiet (fail)
      go_wp2
      go_roundw
      case rel => exact ⟨k + 1, by omega, by go_num, hq.drewN _⟩
      case measure => simp [intOf]; omega
    · go_wp2
      go_ret
      exact ⟨rfl, hq⟩

set_option maxHeartbeats 400000 in
/-- zzHasPrefix where the second's bytes begin the first's. -/
theorem hasPrefix (l m : List UInt8) (g1 o1 c1 g2 o2 c2 : Nat) (w : World) (h1 : Rd (l ++ m) g1 o1 w) (h2 : Rd l g2 o2 w) (n : Nat) (hn : (l ++ m).length = n) (hl : n ≤ 140737488355328) :
    Calls Tryd.prog 18 #[.slice (some ⟨g1, o1, none⟩) n c1, .slice (some ⟨g2, o2, none⟩) l.length c2] w fun e w' => e = .returned (.bool true) ∧ Hush w w' := by
  rw [List.length_append] at hn
  have hln : ¬ (n : Int) < l.length := by omega
  have h1' : Rd l g1 o1 w := by
    have := h1.take l.length
    rwa [List.take_left' rfl] at this
  have hln' : l.length ≤ n := by omega
  clear hn h1
  go_enter Tryd.func18, Tryd.ntmps18
  go_wp2
  go_loopw [5] (fun i wr => ∃ k : Nat, k ≤ l.length ∧ i = .int .i64 k ∧ Hush w wr) (fun i _ => l.length - (intOf i).toNat)
  case atStart => exact ⟨0, Nat.zero_le _, rfl, Hush.refl _⟩
  case round =>
    obtain ⟨k, hk, rfl, hq⟩ := hrel
    by_cases hlt : k < l.length
    · have d1 := (h1'.hush hq) k hlt
      have d2 := (h2.hush hq) k hlt
      have b1 : (k : Int) < l.length := by omega
      have b2 : (k : Int) < n := by omega
      have b0 : (0 : Int) ≤ k := by omega
      go_wp2
      go_quiet (fail)
      go_wp2
      go_roundw
      case rel => exact ⟨k + 1, by omega, by go_num, hq.drewN _⟩
      case measure => simp [intOf]; omega
    · go_wp2
      go_ret
      exact ⟨rfl, hq⟩

theorem copy_step {l : List UInt8} {N k : Nat} {arr : Array Value} {wr : World} (hN : wr.heap[N]? = some (.cells arr 5 (0, 0))) (ha : arr.size = l.length) (ht : arr.toList.take k = Lib.byteCells (l.take k)) (hk : k < l.length) :
    ∃ arr2 : Array Value, (wr.setCell ⟨N, k, none⟩ (.int .u8 (byteAt l k))).heap[N]? = some (.cells arr2 5 (0, 0)) ∧ arr2.size = l.length ∧ arr2.toList.take (k + 1) = Lib.byteCells (l.take (k + 1)) := by
  refine ⟨arr.setIfInBounds k (.int .u8 (byteAt l k)), Lib.heap_setCell_same (i := k) hN _, by simpa using ha, ?_⟩
  have hll : k < arr.toList.length := by have : arr.toList.length = arr.size := Array.length_toList; omega
  rw [Array.toList_setIfInBounds, List.take_add_one, List.take_set_of_le (Nat.le_refl _), List.getElem?_set_self hll, ht, List.take_add_one, List.getElem?_eq_getElem hk]
  rw [Lib.byteCells_append]
  simp [Lib.byteCells, byteAt, List.getD, List.getElem?_eq_getElem hk]

set_option maxHeartbeats 800000 in
/-- zzCopyBytes: a new row. -/
theorem copyBytes (l : List UInt8) (g o c : Nat) (w : World) (h : Rd l g o w) (hg : g < w.heap.size) (hl : l.length ≤ 16777216) :
    Calls Tryd.prog 16 #[.slice (some ⟨g, o, none⟩) l.length c] w fun e w' => e = .returned (.slice (some ⟨w.heap.size, 0, none⟩) l.length l.length) ∧
      w'.heap[w.heap.size]? = some (.cells (Lib.byteCells l).toArray 5 (0, 0)) ∧ Below w.heap.size w w' ∧ w'.heap.size = w.heap.size + 1 := by
  obtain ⟨i0, hi, hz0, hz1, hz2⟩ := info_parts Tryd.info5
  obtain ⟨M, hM⟩ : ∃ M, M = madeCells (Value.int .u8 0).cells ((l.length : Int).toNat * i0.size) := ⟨_, rfl⟩
  have hMs : M.size = l.length := by rw [hM, size_madeCells, hz1]; simp
  have hmk : ∀ W : World, (Instr.makeSlice 23 (.int .i64 (l.length : Int)) (.int .i64 (l.length : Int))).run Tryd.prog W = .ok (.slice (some ⟨W.heap.size, 0, none⟩) l.length l.length) (W.alloc (.cells M 5)) := fun W => by
    have h := run_makeSlice (P := Tryd.prog) W 23 5 i0 (.int .u8 0) Tryd.underlying23 hi hz0 .i64 .i64 (l.length : Int) (l.length : Int) (by omega) (by omega) (by rw [hz1]; omega) (by rw [hz2]; omega) (by omega)
    rw [← hM] at h
    simpa using h
  clear hM
  have HMs := Lib.hid hMs
  clear hMs
  go_enter Tryd.func16, Tryd.ntmps16
  go_wp2
  go_loopw [4] (fun i wr => ∃ k : Nat, k ≤ l.length ∧ i = .int .i64 k ∧ Below w.heap.size w wr ∧ wr.heap.size = w.heap.size + 1 ∧ ∃ arr : Array Value, wr.heap[w.heap.size]? = some (.cells arr 5 (0, 0)) ∧ Hid (arr.size = l.length) ∧ Hid (arr.toList.take k = Lib.byteCells (l.take k))) (fun i _ => l.length - (intOf i).toNat)
  case atStart => exact ⟨0, Nat.zero_le _, rfl, (Below.refl _ w).alloc (Nat.le_refl _) _, by simp, M, heap_alloc_new w _, HMs, Lib.hid (by simp [Lib.byteCells])⟩
  case round =>
    obtain ⟨k, hk, rfl, hb, hsz, arr, hN, Ha, Ht⟩ := hrel
    by_cases hlt : k < l.length
    · have d1 : wr.cell? ⟨g, o + k, none⟩ = some (.int .u8 (byteAt l k)) := (hb.cell (p := ⟨g, o + k, none⟩) hg).trans (h k hlt)
      obtain ⟨x, hx⟩ : ∃ x, wr.cell? ⟨w.heap.size, k, none⟩ = some x := ⟨arr[k]'(by rw [Ha.out]; exact hlt), by rw [Lib.cell_of_heap hN]; simp [Ha.out, hlt]⟩
      have hf : wr.frozen? ⟨w.heap.size, k, none⟩ = false := Lib.frozen_of_heap hN k
      obtain ⟨arr2, q1, q2, q3⟩ := copy_step hN Ha.out Ht.out hlt
      have b1 : (k : Int) < l.length := by omega
      have b0 : (0 : Int) ≤ k := by omega
      have Q2 := Lib.hid q2
      have Q3 := Lib.hid q3
      have Q1 := Lib.hid q1
      have Hsz := Lib.hid hsz
      clear q1 q2 q3 hsz hmk
      go_wp2
      go_roundw
      case rel => exact ⟨k + 1, by omega, by go_num, hb.setCell (p := ⟨w.heap.size, k, none⟩) (Nat.le_refl _) _, by simpa [World.setCell] using Hsz.out, arr2, Q1.out, Q2, Q3⟩
      case measure => simp [intOf]; omega
    · have hk' : k = l.length := by omega
      have Hsz := Lib.hid hsz
      clear hsz
      go_wp2
      go_ret
      refine ⟨rfl, ?_, hb, Hsz.out⟩
      have h3 := Ht.out
      rw [hk', List.take_of_length_le (Nat.le_refl _), List.take_of_length_le (by rw [Array.length_toList, Ha.out]; exact Nat.le_refl _)] at h3
      rw [hN, ← h3]

set_option maxHeartbeats 400000 in
/-- zzCopyBytes of the nil slice. -/
theorem copyBytes_nil (w : World) :
    Calls Tryd.prog 16 #[.slice none 0 0] w fun e w' => e = .returned (.slice (some ⟨w.heap.size, 0, none⟩) 0 0) ∧
      w'.heap[w.heap.size]? = some (.cells (Lib.byteCells []).toArray 5 (0, 0)) ∧ Below w.heap.size w w' ∧ w'.heap.size = w.heap.size + 1 := by
  have hmk : ∀ W : World, (Instr.makeSlice 23 (.int .i64 0) (.int .i64 0)).run Tryd.prog W = .ok (.slice (some ⟨W.heap.size, 0, none⟩) 0 0) (W.alloc (.cells #[] 5)) := fun W => by kernel_rfl
  go_enter Tryd.func16, Tryd.ntmps16
  go_wp2
  go_loopw [4] (fun i wr => i = .int .i64 0 ∧ wr = w.alloc (.cells #[] 5)) (fun _ _ => 0)
  case atStart => exact ⟨rfl, rfl⟩
  case round =>
    obtain ⟨rfl, rfl⟩ := hrel
    go_wp2
    go_ret
    exact ⟨rfl, heap_alloc_new w _, (Below.refl _ w).alloc (Nat.le_refl _) _, by simp⟩

end Go.Proofs.Qxb6616850aDoor
