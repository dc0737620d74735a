/-
  The laws' helpers on slices, at this dump: the clones, the comparisons.
-/
import Derived.Test.Qxb6617129aMem
import Derived.Test.Qxb6617129aChecked
import Derived.Deep.QuietTactic
import Derived.BigQuiet
import Derived.Laws.Cover3
namespace Go.Proofs.Qxb6617129a
open Go.RowKit

theorem Try.info41 : (Try.prog.info? 41).map (fun i => (i.zero, i.size, i.bytes)) = some (some (.int .u64 0), 1, 8) := by kernel_rfl
theorem Try.info3 : (Try.prog.info? 3).map (fun i => (i.zero, i.size, i.bytes)) = some (some (.int .i64 0), 1, 8) := by kernel_rfl
theorem Try.info4 : (Try.prog.info? 4).map (fun i => (i.zero, i.size, i.bytes)) = some (some (.bool false), 1, 1) := by kernel_rfl

theorem isNilU (ao : Option Addr) (n c : Nat) (W : World) : (binOp .eql 22 (.slice ao n c) (.slice none 0 0)).run Try.prog W = .ok (.bool ao.isNone) W := by
  simp [binOp, run_equal_slice_nil W 22 41 ao n c Try.underlying22]

set_option maxHeartbeats 800000 in
theorem cloneU_nil (w : World) : Calls Try.prog 22 #[.slice none 0 0] w fun e w' => e = .returned (.slice none 0 0) ∧ w' = w := by
  have hnl := isNilU none 0 0
  go_enter Try.func22, Try.ntmps22
  go_wp2
  go_ret
  exact ⟨rfl, rfl⟩

set_option maxHeartbeats 800000 in
theorem cloneU_some (Pt : Nat → Prop) (xs : List Value) (a : Addr) (n c : Nat) (w : World) (h : Rs Pt IsU xs (some a) n c w) (hP : ∀ k, Pt k → k < w.heap.size) (hn : n ≤ 16777216) :
    Calls Try.prog 22 #[.slice (some a) n c] w fun e w' => e = .returned (.slice (some ⟨w.heap.size, 0, none⟩) n n) ∧
      w'.heap[w.heap.size]? = some (.cells xs.toArray 41 (0, 0)) ∧ Below w.heap.size w w' := by
  obtain ⟨i0, hi, hz0, hz1, hz2⟩ := info_parts Try.info41
  obtain ⟨M, hM⟩ : ∃ M, M = madeCells (Value.int .u64 0).cells ((n : Int).toNat * i0.size) := ⟨_, rfl⟩
  have hMs : M.size = n := by rw [hM, size_madeCells, hz1]; simp
  have hmk : ∀ W : World, (Instr.makeSlice 22 (.int .i64 (n : Int)) (.int .i64 (n : Int))).run Try.prog W = .ok (.slice (some ⟨W.heap.size, 0, none⟩) n n) (W.alloc (.cells M 41)) := fun W => by
    have h := run_makeSlice (P := Try.prog) W 22 41 i0 (Value.int .u64 0) Try.underlying22 hi hz0 .i64 .i64 (n : Int) (n : Int) (by omega) (by omega) (by rw [hz1]; omega) (by rw [hz2]; omega) (by omega)
    rw [← hM] at h
    simpa using h
  clear hM
  have hlen := h.len
  have Hlen := Lib.hid hlen
  have HMs : Hid (M.size = xs.length) := by show _ = _; rw [hMs, hlen]
  clear hMs hlen
  have hnl := isNilU (some a) n c
  go_enter Try.func22, Try.ntmps22
  go_wp2
  go_loopw [4] (fun i wr => ∃ k : Nat, k ≤ n ∧ i = .int .i64 k ∧ Below w.heap.size w wr ∧ ∃ arr : Array Value, wr.heap[w.heap.size]? = some (.cells arr 41 (0, 0)) ∧ Hid (arr.size = xs.length) ∧ Hid (arr.toList.take k = xs.take k)) (fun i _ => n - (intOf i).toNat)
  case atStart => exact ⟨0, Nat.zero_le _, rfl, (Below.refl _ w).alloc (Nat.le_refl _) _, M, heap_alloc_new w _, HMs, Lib.hid (by simp)⟩
  case round =>
    obtain ⟨k, hk, rfl, hb, arr, hN, Ha, Ht⟩ := hrel
    by_cases hlt : k < n
    · obtain ⟨g, o, e, p, q⟩ := h.at_ (by omega)
      obtain ⟨rfl⟩ := e
      have d1 : wr.cell? ⟨g, o + k, none⟩ = some (xs.getD k undef) := (hb.cell (p := ⟨g, o + k, none⟩) (hP g p)).trans (q k hlt)
      obtain ⟨x, hx⟩ : ∃ x, wr.cell? ⟨w.heap.size, k, none⟩ = some x := ⟨arr[k]'(by rw [Ha.out, Hlen.out]; exact hlt), by rw [Lib.cell_of_heap hN]; simp [Ha.out, Hlen.out, hlt]⟩
      have hf : wr.frozen? ⟨w.heap.size, k, none⟩ = false := Lib.frozen_of_heap hN k
      obtain ⟨arr2, q1, q2, q3⟩ := row_step hN Ha.out Ht.out (by rw [Hlen.out]; exact hlt)
      obtain ⟨y, hy⟩ : ∃ y, y = xs.getD k undef := ⟨_, rfl⟩
      have hy1 := h.elt hlt
      rw [← hy] at d1 q1 hy1
      obtain ⟨z, rfl, hz⟩ := hy1
      have b1 : (k : Int) < n := by omega
      have b0 : (0 : Int) ≤ k := by omega
      have Q2 := Lib.hid q2
      have Q3 := Lib.hid q3
      have Q1 := Lib.hid q1
      clear q1 q2 q3 hmk hy q
      go_wp2
      go_roundw
      case rel => exact ⟨k + 1, by omega, by go_num, hb.setCell (p := ⟨w.heap.size, k, none⟩) (Nat.le_refl _) _, arr2, Q1.out, Q2, Q3⟩
      case measure => simp [intOf]; omega
    · have hk' : k = xs.length := by rw [Hlen.out]; omega
      have HK := Lib.hid hk'
      clear hk'
      go_wp2
      go_ret
      refine ⟨rfl, ?_, hb⟩
      have h3 := Ht.out
      rw [HK.out, List.take_of_length_le (Nat.le_refl _), List.take_of_length_le (by rw [Array.length_toList, Ha.out]; exact Nat.le_refl _)] at h3
      rw [hN, ← h3]

theorem cloneU (Pt : Nat → Prop) (xs : List Value) (ao : Option Addr) (n c : Nat) (w : World) (h : Rs Pt IsU xs ao n c w) (hP : ∀ k, Pt k → k < w.heap.size) (hn : n ≤ 16777216) :
    Calls Try.prog 22 #[.slice ao n c] w fun e w' => ∃ v, e = .returned v ∧ w'.ownsRow 0 41 1 v n xs ∧ Exact v n ∧ Below w.heap.size w w' ∧ ∀ k, v.ownBlock = some k → w.heap.size ≤ k := by
  cases ao with
  | none =>
    obtain ⟨rfl, rfl⟩ := h.nil rfl
    have hx : xs = [] := List.eq_nil_of_length_eq_zero h.len
    subst hx
    refine (cloneU_nil w).mono ?_
    rintro e w' ⟨rfl, rfl⟩
    exact ⟨_, rfl, World.ownsRow_nil _ _ _ _, .inl ⟨rfl, rfl⟩, Below.refl _ _, fun k hk => by cases hk⟩
  | some a =>
    refine (cloneU_some Pt xs a n c w h hP hn).mono ?_
    rintro e w' ⟨rfl, h1, h2⟩
    refine ⟨_, rfl, ⟨by rw [Nat.mul_one]; exact h.len, .inr ⟨w.heap.size, n, xs.toArray, rfl, Nat.zero_le _, h1, Nat.le_refl _, by unfold maxLen; omega, by simp [h.len], by rw [Nat.mul_one]; exact List.take_of_length_le (by rw [h.len]; exact Nat.le_refl _)⟩⟩, .inr ⟨_, rfl⟩, h2, fun k hk => ?_⟩
    simp [Value.ownBlock] at hk
    omega

theorem isNilI (ao : Option Addr) (n c : Nat) (W : World) : (binOp .eql 23 (.slice ao n c) (.slice none 0 0)).run Try.prog W = .ok (.bool ao.isNone) W := by
  simp [binOp, run_equal_slice_nil W 23 3 ao n c Try.underlying23]

set_option maxHeartbeats 800000 in
theorem cloneI_nil (w : World) : Calls Try.prog 27 #[.slice none 0 0] w fun e w' => e = .returned (.slice none 0 0) ∧ w' = w := by
  have hnl := isNilI none 0 0
  go_enter Try.func27, Try.ntmps27
  go_wp2
  go_ret
  exact ⟨rfl, rfl⟩

set_option maxHeartbeats 800000 in
theorem cloneI_some (Pt : Nat → Prop) (xs : List Value) (a : Addr) (n c : Nat) (w : World) (h : Rs Pt IsI xs (some a) n c w) (hP : ∀ k, Pt k → k < w.heap.size) (hn : n ≤ 16777216) :
    Calls Try.prog 27 #[.slice (some a) n c] w fun e w' => e = .returned (.slice (some ⟨w.heap.size, 0, none⟩) n n) ∧
      w'.heap[w.heap.size]? = some (.cells xs.toArray 3 (0, 0)) ∧ Below w.heap.size w w' := by
  obtain ⟨i0, hi, hz0, hz1, hz2⟩ := info_parts Try.info3
  obtain ⟨M, hM⟩ : ∃ M, M = madeCells (Value.int .i64 0).cells ((n : Int).toNat * i0.size) := ⟨_, rfl⟩
  have hMs : M.size = n := by rw [hM, size_madeCells, hz1]; simp
  have hmk : ∀ W : World, (Instr.makeSlice 23 (.int .i64 (n : Int)) (.int .i64 (n : Int))).run Try.prog W = .ok (.slice (some ⟨W.heap.size, 0, none⟩) n n) (W.alloc (.cells M 3)) := fun W => by
    have h := run_makeSlice (P := Try.prog) W 23 3 i0 (Value.int .i64 0) Try.underlying23 hi hz0 .i64 .i64 (n : Int) (n : Int) (by omega) (by omega) (by rw [hz1]; omega) (by rw [hz2]; omega) (by omega)
    rw [← hM] at h
    simpa using h
  clear hM
  have hlen := h.len
  have Hlen := Lib.hid hlen
  have HMs : Hid (M.size = xs.length) := by show _ = _; rw [hMs, hlen]
  clear hMs hlen
  have hnl := isNilI (some a) n c
  go_enter Try.func27, Try.ntmps27
  go_wp2
  go_loopw [4] (fun i wr => ∃ k : Nat, k ≤ n ∧ i = .int .i64 k ∧ Below w.heap.size w wr ∧ ∃ arr : Array Value, wr.heap[w.heap.size]? = some (.cells arr 3 (0, 0)) ∧ Hid (arr.size = xs.length) ∧ Hid (arr.toList.take k = xs.take k)) (fun i _ => n - (intOf i).toNat)
  case atStart => exact ⟨0, Nat.zero_le _, rfl, (Below.refl _ w).alloc (Nat.le_refl _) _, M, heap_alloc_new w _, HMs, Lib.hid (by simp)⟩
  case round =>
    obtain ⟨k, hk, rfl, hb, arr, hN, Ha, Ht⟩ := hrel
    by_cases hlt : k < n
    · obtain ⟨g, o, e, p, q⟩ := h.at_ (by omega)
      obtain ⟨rfl⟩ := e
      have d1 : wr.cell? ⟨g, o + k, none⟩ = some (xs.getD k undef) := (hb.cell (p := ⟨g, o + k, none⟩) (hP g p)).trans (q k hlt)
      obtain ⟨x, hx⟩ : ∃ x, wr.cell? ⟨w.heap.size, k, none⟩ = some x := ⟨arr[k]'(by rw [Ha.out, Hlen.out]; exact hlt), by rw [Lib.cell_of_heap hN]; simp [Ha.out, Hlen.out, hlt]⟩
      have hf : wr.frozen? ⟨w.heap.size, k, none⟩ = false := Lib.frozen_of_heap hN k
      obtain ⟨arr2, q1, q2, q3⟩ := row_step hN Ha.out Ht.out (by rw [Hlen.out]; exact hlt)
      obtain ⟨y, hy⟩ : ∃ y, y = xs.getD k undef := ⟨_, rfl⟩
      have hy1 := h.elt hlt
      rw [← hy] at d1 q1 hy1
      obtain ⟨z, rfl⟩ := hy1
      have b1 : (k : Int) < n := by omega
      have b0 : (0 : Int) ≤ k := by omega
      have Q2 := Lib.hid q2
      have Q3 := Lib.hid q3
      have Q1 := Lib.hid q1
      clear q1 q2 q3 hmk hy q
      go_wp2
      go_roundw
      case rel => exact ⟨k + 1, by omega, by go_num, hb.setCell (p := ⟨w.heap.size, k, none⟩) (Nat.le_refl _) _, arr2, Q1.out, Q2, Q3⟩
      case measure => simp [intOf]; omega
    · have hk' : k = xs.length := by rw [Hlen.out]; omega
      have HK := Lib.hid hk'
      clear hk'
      go_wp2
      go_ret
      refine ⟨rfl, ?_, hb⟩
      have h3 := Ht.out
      rw [HK.out, List.take_of_length_le (Nat.le_refl _), List.take_of_length_le (by rw [Array.length_toList, Ha.out]; exact Nat.le_refl _)] at h3
      rw [hN, ← h3]

theorem cloneI (Pt : Nat → Prop) (xs : List Value) (ao : Option Addr) (n c : Nat) (w : World) (h : Rs Pt IsI xs ao n c w) (hP : ∀ k, Pt k → k < w.heap.size) (hn : n ≤ 16777216) :
    Calls Try.prog 27 #[.slice ao n c] w fun e w' => ∃ v, e = .returned v ∧ w'.ownsRow 0 3 1 v n xs ∧ Exact v n ∧ Below w.heap.size w w' ∧ ∀ k, v.ownBlock = some k → w.heap.size ≤ k := by
  cases ao with
  | none =>
    obtain ⟨rfl, rfl⟩ := h.nil rfl
    have hx : xs = [] := List.eq_nil_of_length_eq_zero h.len
    subst hx
    refine (cloneI_nil w).mono ?_
    rintro e w' ⟨rfl, rfl⟩
    exact ⟨_, rfl, World.ownsRow_nil _ _ _ _, .inl ⟨rfl, rfl⟩, Below.refl _ _, fun k hk => by cases hk⟩
  | some a =>
    refine (cloneI_some Pt xs a n c w h hP hn).mono ?_
    rintro e w' ⟨rfl, h1, h2⟩
    refine ⟨_, rfl, ⟨by rw [Nat.mul_one]; exact h.len, .inr ⟨w.heap.size, n, xs.toArray, rfl, Nat.zero_le _, h1, Nat.le_refl _, by unfold maxLen; omega, by simp [h.len], by rw [Nat.mul_one]; exact List.take_of_length_le (by rw [h.len]; exact Nat.le_refl _)⟩⟩, .inr ⟨_, rfl⟩, h2, fun k hk => ?_⟩
    simp [Value.ownBlock] at hk
    omega

theorem isNilB (ao : Option Addr) (n c : Nat) (W : World) : (binOp .eql 24 (.slice ao n c) (.slice none 0 0)).run Try.prog W = .ok (.bool ao.isNone) W := by
  simp [binOp, run_equal_slice_nil W 24 4 ao n c Try.underlying24]

set_option maxHeartbeats 800000 in
theorem cloneB_nil (w : World) : Calls Try.prog 28 #[.slice none 0 0] w fun e w' => e = .returned (.slice none 0 0) ∧ w' = w := by
  have hnl := isNilB none 0 0
  go_enter Try.func28, Try.ntmps28
  go_wp2
  go_ret
  exact ⟨rfl, rfl⟩

set_option maxHeartbeats 800000 in
theorem cloneB_some (Pt : Nat → Prop) (xs : List Value) (a : Addr) (n c : Nat) (w : World) (h : Rs Pt IsB xs (some a) n c w) (hP : ∀ k, Pt k → k < w.heap.size) (hn : n ≤ 16777216) :
    Calls Try.prog 28 #[.slice (some a) n c] w fun e w' => e = .returned (.slice (some ⟨w.heap.size, 0, none⟩) n n) ∧
      w'.heap[w.heap.size]? = some (.cells xs.toArray 4 (0, 0)) ∧ Below w.heap.size w w' := by
  obtain ⟨i0, hi, hz0, hz1, hz2⟩ := info_parts Try.info4
  obtain ⟨M, hM⟩ : ∃ M, M = madeCells (Value.bool false).cells ((n : Int).toNat * i0.size) := ⟨_, rfl⟩
  have hMs : M.size = n := by rw [hM, size_madeCells, hz1]; simp
  have hmk : ∀ W : World, (Instr.makeSlice 24 (.int .i64 (n : Int)) (.int .i64 (n : Int))).run Try.prog W = .ok (.slice (some ⟨W.heap.size, 0, none⟩) n n) (W.alloc (.cells M 4)) := fun W => by
    have h := run_makeSlice (P := Try.prog) W 24 4 i0 (Value.bool false) Try.underlying24 hi hz0 .i64 .i64 (n : Int) (n : Int) (by omega) (by omega) (by rw [hz1]; omega) (by rw [hz2]; omega) (by omega)
    rw [← hM] at h
    simpa using h
  clear hM
  have hlen := h.len
  have Hlen := Lib.hid hlen
  have HMs : Hid (M.size = xs.length) := by show _ = _; rw [hMs, hlen]
  clear hMs hlen
  have hnl := isNilB (some a) n c
  go_enter Try.func28, Try.ntmps28
  go_wp2
  go_loopw [4] (fun i wr => ∃ k : Nat, k ≤ n ∧ i = .int .i64 k ∧ Below w.heap.size w wr ∧ ∃ arr : Array Value, wr.heap[w.heap.size]? = some (.cells arr 4 (0, 0)) ∧ Hid (arr.size = xs.length) ∧ Hid (arr.toList.take k = xs.take k)) (fun i _ => n - (intOf i).toNat)
  case atStart => exact ⟨0, Nat.zero_le _, rfl, (Below.refl _ w).alloc (Nat.le_refl _) _, M, heap_alloc_new w _, HMs, Lib.hid (by simp)⟩
  case round =>
    obtain ⟨k, hk, rfl, hb, arr, hN, Ha, Ht⟩ := hrel
    by_cases hlt : k < n
    · obtain ⟨g, o, e, p, q⟩ := h.at_ (by omega)
      obtain ⟨rfl⟩ := e
      have d1 : wr.cell? ⟨g, o + k, none⟩ = some (xs.getD k undef) := (hb.cell (p := ⟨g, o + k, none⟩) (hP g p)).trans (q k hlt)
      obtain ⟨x, hx⟩ : ∃ x, wr.cell? ⟨w.heap.size, k, none⟩ = some x := ⟨arr[k]'(by rw [Ha.out, Hlen.out]; exact hlt), by rw [Lib.cell_of_heap hN]; simp [Ha.out, Hlen.out, hlt]⟩
      have hf : wr.frozen? ⟨w.heap.size, k, none⟩ = false := Lib.frozen_of_heap hN k
      obtain ⟨arr2, q1, q2, q3⟩ := row_step hN Ha.out Ht.out (by rw [Hlen.out]; exact hlt)
      obtain ⟨y, hy⟩ : ∃ y, y = xs.getD k undef := ⟨_, rfl⟩
      have hy1 := h.elt hlt
      rw [← hy] at d1 q1 hy1
      obtain ⟨z, rfl⟩ := hy1
      have b1 : (k : Int) < n := by omega
      have b0 : (0 : Int) ≤ k := by omega
      have Q2 := Lib.hid q2
      have Q3 := Lib.hid q3
      have Q1 := Lib.hid q1
      clear q1 q2 q3 hmk hy q
      go_wp2
      go_roundw
      case rel => exact ⟨k + 1, by omega, by go_num, hb.setCell (p := ⟨w.heap.size, k, none⟩) (Nat.le_refl _) _, arr2, Q1.out, Q2, Q3⟩
      case measure => simp [intOf]; omega
    · have hk' : k = xs.length := by rw [Hlen.out]; omega
      have HK := Lib.hid hk'
      clear hk'
      go_wp2
      go_ret
      refine ⟨rfl, ?_, hb⟩
      have h3 := Ht.out
      rw [HK.out, List.take_of_length_le (Nat.le_refl _), List.take_of_length_le (by rw [Array.length_toList, Ha.out]; exact Nat.le_refl _)] at h3
      rw [hN, ← h3]

theorem cloneB (Pt : Nat → Prop) (xs : List Value) (ao : Option Addr) (n c : Nat) (w : World) (h : Rs Pt IsB xs ao n c w) (hP : ∀ k, Pt k → k < w.heap.size) (hn : n ≤ 16777216) :
    Calls Try.prog 28 #[.slice ao n c] w fun e w' => ∃ v, e = .returned v ∧ w'.ownsRow 0 4 1 v n xs ∧ Exact v n ∧ Below w.heap.size w w' ∧ ∀ k, v.ownBlock = some k → w.heap.size ≤ k := by
  cases ao with
  | none =>
    obtain ⟨rfl, rfl⟩ := h.nil rfl
    have hx : xs = [] := List.eq_nil_of_length_eq_zero h.len
    subst hx
    refine (cloneB_nil w).mono ?_
    rintro e w' ⟨rfl, rfl⟩
    exact ⟨_, rfl, World.ownsRow_nil _ _ _ _, .inl ⟨rfl, rfl⟩, Below.refl _ _, fun k hk => by cases hk⟩
  | some a =>
    refine (cloneB_some Pt xs a n c w h hP hn).mono ?_
    rintro e w' ⟨rfl, h1, h2⟩
    refine ⟨_, rfl, ⟨by rw [Nat.mul_one]; exact h.len, .inr ⟨w.heap.size, n, xs.toArray, rfl, Nat.zero_le _, h1, Nat.le_refl _, by unfold maxLen; omega, by simp [h.len], by rw [Nat.mul_one]; exact List.take_of_length_le (by rw [h.len]; exact Nat.le_refl _)⟩⟩, .inr ⟨_, rfl⟩, h2, fun k hk => ?_⟩
    simp [Value.ownBlock] at hk
    omega

set_option maxHeartbeats 800000 in
theorem eqU (Pt Qt : Nat → Prop) (xs : List Value) (ao bo : Option Addr) (n c d : Nat) (w : World) (h1 : Rs Pt IsU xs ao n c w) (h2 : Rs Qt IsU xs bo n d w) :
    Calls Try.prog 13 #[.slice ao n c, .slice bo n d] w fun e w' => e = .returned (.bool true) ∧ Hush w w' := by
  have hnc := h1.le
  have hcm := h1.max
  go_enter Try.func13, Try.ntmps13
  go_wp2
  go_loopw [5] (fun i wr => ∃ k : Nat, k ≤ n ∧ i = .int .i64 k ∧ Hush w wr) (fun i _ => n - (intOf i).toNat)
  case atStart => exact ⟨0, Nat.zero_le _, rfl, Hush.refl _⟩
  case round =>
    obtain ⟨k, hk, rfl, hq⟩ := hrel
    by_cases hlt : k < n
    · obtain ⟨g, o, rfl, p, q⟩ := h1.at_ (by omega)
      obtain ⟨g2, o2, rfl, p2, q2⟩ := h2.at_ (by omega)
      have d1 := (hq.cell _).trans (q k hlt)
      have d2 := (hq.cell _).trans (q2 k hlt)
      obtain ⟨y, hy⟩ : ∃ y, y = xs.getD k undef := ⟨_, rfl⟩
      have hy1 := h1.elt hlt
      rw [← hy] at d1 d2 hy1
      obtain ⟨z, rfl, hz⟩ := hy1
      have b1 : (k : Int) < n := by omega
      have b0 : (0 : Int) ≤ k := by omega
      clear q q2 hy h1 h2
      go_wp2
      go_quiet (fail)
      go_wp2
      go_roundw
      case rel => exact ⟨k + 1, by omega, by go_num, hq.drewN _⟩
      case measure => simp [intOf]; omega
    · go_wp2
      go_ret
      exact ⟨rfl, hq⟩

set_option maxHeartbeats 800000 in
theorem eqI (Pt Qt : Nat → Prop) (xs : List Value) (ao bo : Option Addr) (n c d : Nat) (w : World) (h1 : Rs Pt IsI xs ao n c w) (h2 : Rs Qt IsI xs bo n d w) :
    Calls Try.prog 14 #[.slice ao n c, .slice bo n d] w fun e w' => e = .returned (.bool true) ∧ Hush w w' := by
  have hnc := h1.le
  have hcm := h1.max
  go_enter Try.func14, Try.ntmps14
  go_wp2
  go_loopw [5] (fun i wr => ∃ k : Nat, k ≤ n ∧ i = .int .i64 k ∧ Hush w wr) (fun i _ => n - (intOf i).toNat)
  case atStart => exact ⟨0, Nat.zero_le _, rfl, Hush.refl _⟩
  case round =>
    obtain ⟨k, hk, rfl, hq⟩ := hrel
    by_cases hlt : k < n
    · obtain ⟨g, o, rfl, p, q⟩ := h1.at_ (by omega)
      obtain ⟨g2, o2, rfl, p2, q2⟩ := h2.at_ (by omega)
      have d1 := (hq.cell _).trans (q k hlt)
      have d2 := (hq.cell _).trans (q2 k hlt)
      obtain ⟨y, hy⟩ : ∃ y, y = xs.getD k undef := ⟨_, rfl⟩
      have hy1 := h1.elt hlt
      rw [← hy] at d1 d2 hy1
      obtain ⟨z, rfl⟩ := hy1
      have b1 : (k : Int) < n := by omega
      have b0 : (0 : Int) ≤ k := by omega
      clear q q2 hy h1 h2
      go_wp2
      go_quiet (fail)
      go_wp2
      go_roundw
      case rel => exact ⟨k + 1, by omega, by go_num, hq.drewN _⟩
      case measure => simp [intOf]; omega
    · go_wp2
      go_ret
      exact ⟨rfl, hq⟩

set_option maxHeartbeats 800000 in
theorem eqB (Pt Qt : Nat → Prop) (xs : List Value) (ao bo : Option Addr) (n c d : Nat) (w : World) (h1 : Rs Pt IsB xs ao n c w) (h2 : Rs Qt IsB xs bo n d w) :
    Calls Try.prog 32 #[.slice ao n c, .slice bo n d] w fun e w' => e = .returned (.bool true) ∧ Hush w w' := by
  have hnc := h1.le
  have hcm := h1.max
  go_enter Try.func32, Try.ntmps32
  go_wp2
  go_loopw [5] (fun i wr => ∃ k : Nat, k ≤ n ∧ i = .int .i64 k ∧ Hush w wr) (fun i _ => n - (intOf i).toNat)
  case atStart => exact ⟨0, Nat.zero_le _, rfl, Hush.refl _⟩
  case round =>
    obtain ⟨k, hk, rfl, hq⟩ := hrel
    by_cases hlt : k < n
    · obtain ⟨g, o, rfl, p, q⟩ := h1.at_ (by omega)
      obtain ⟨g2, o2, rfl, p2, q2⟩ := h2.at_ (by omega)
      have d1 := (hq.cell _).trans (q k hlt)
      have d2 := (hq.cell _).trans (q2 k hlt)
      obtain ⟨y, hy⟩ : ∃ y, y = xs.getD k undef := ⟨_, rfl⟩
      have hy1 := h1.elt hlt
      rw [← hy] at d1 d2 hy1
      obtain ⟨z, rfl⟩ := hy1
      have b1 : (k : Int) < n := by omega
      have b0 : (0 : Int) ≤ k := by omega
      clear q q2 hy h1 h2
      go_wp2
      go_quiet (fail)
      go_wp2
      go_roundw
      case rel => exact ⟨k + 1, by omega, by go_num, hq.drewN _⟩
      case measure => simp [intOf]; omega
    · go_wp2
      go_ret
      exact ⟨rfl, hq⟩

end Go.Proofs.Qxb6617129a
