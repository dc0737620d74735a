/-
  resized, at this dump: zeros in the old row where they fit, else in a new one.
-/
import Derived.Test.Qxb6617129aCln
import Derived.Laws.OwnMore
namespace Go.Proofs.Qxb6617129a
open Go.RowKit

/-- n zero words. -/
def zeros (n : Nat) : List Value := List.replicate n (.int .u64 0)
theorem zeros_length (n : Nat) : (zeros n).length = n := by simp [zeros]
theorem zeros_isU (n : Nat) : ∀ x ∈ zeros n, IsU x := fun x hx => by
  rw [zeros, List.mem_replicate] at hx
  exact ⟨0, hx.2, by omega⟩

theorem zeroCells_u (n : Nat) : (Builtin.zeroCells (Value.int .u64 0).cells n).toList = zeros n := by
  apply List.ext_getElem
  · simp [Builtin.zeroCells, Value.cells, zeros]
  · intro i h1 h2
    simp [Builtin.zeroCells, Value.cells, zeros]
    rw [Nat.mod_one]
    rfl

theorem run_clear_row (w : World) (ty g n c : Nat) (cur : Array Value) (hn : n ≠ 0) (hg : w.heap[g]? = some (.cells cur 41 (0, 0))) (hfit : n ≤ cur.size) :
    (Builtin.clear_ #[22] ty #[.slice (some ⟨g, 0, none⟩) n c]).run Try.prog w = .ok (.tuple #[]) (w.setRow g (zeros n ++ cur.toList.drop n).toArray) := by
  obtain ⟨i0, hi, hz0, hz1, hz2⟩ := info_parts Try.info41
  have hst := run_storeCells_at Try.prog g 0 41 (zeros n) 0 cur w hg (by rw [zeros_length]; omega) (fun v hv => by rw [zeros, List.mem_replicate] at hv; rw [hv.2]; rfl)
  rw [zeros_length] at hst
  simp [Builtin.clear_, run_underlying Try.underlying22, zeroValue, typeInfo, hi, hz0, hn]
  rw [zeroCells_u]
  simp only [Nat.zero_add, Nat.add_zero, List.take_zero, List.nil_append] at hst
  rw [hst]
  simp [Result.andThen]

theorem run_clear_none (w : World) (ty : Nat) (ao : Option Addr) (c : Nat) :
    (Builtin.clear_ #[22] ty #[.slice ao 0 c]).run Try.prog w = .ok (.tuple #[]) w := by
  cases ao <;> simp [Builtin.clear_, run_underlying Try.underlying22]

theorem grown_setRow {w : World} {g : Nat} (arr : Array Value) : w.grownBy (w.setRow g arr) (some g) :=
  ⟨rfl, rfl, rfl, by simp, fun k _ hne => setRow_other _ _ _ _ (fun e => hne (by rw [e]))⟩

set_option maxHeartbeats 800000 in
theorem resized_make (n : Nat) (w : World) (m : Nat) (hm : m ≤ 16777216) (ao : Option Addr) (c : Nat) (hc : c < m) :
    Calls Try.prog 29 #[.slice ao n c, .int .i64 m] w fun e w' => ∃ M, e = .returned (.slice (some ⟨w.heap.size, 0, none⟩) m m) ∧ w' = w.alloc (.cells M 41) ∧ M.toList = zeros m := by
  obtain ⟨i0, hi, hz0, hz1, hz2⟩ := info_parts Try.info41
  obtain ⟨M, hM⟩ : ∃ M, M = madeCells (Value.int .u64 0).cells ((m : Int).toNat * i0.size) := ⟨_, rfl⟩
  have hMs : M.toList = zeros m := by
    have e : (Value.int IntKind.u64 0).cells = #[Value.int .u64 0] := rfl
    rw [hM, hz1, e, toList_madeCells_one]
    simp [zeros]
  have hmk : ∀ W : World, (Instr.makeSlice 22 (.int .i64 (m : Int)) (.int .i64 (m : Int))).run Try.prog W = .ok (.slice (some ⟨W.heap.size, 0, none⟩) m m) (W.alloc (.cells M 41)) := fun W => by
    have h := run_makeSlice (P := Try.prog) W 22 41 i0 (Value.int .u64 0) Try.underlying22 hi hz0 .i64 .i64 (m : Int) (m : Int) (by omega) (by omega) (by rw [hz1]; omega) (by rw [hz2]; omega) (by omega)
    rw [← hM] at h
    simpa using h
  have hc' : (c : Int) < m := by omega
  have HMs := Lib.hid hMs
  clear hM hMs
  go_enter Try.func29, Try.ntmps29
  go_wp2
  go_ret
  exact ⟨M, rfl, rfl, HMs.out⟩

set_option maxHeartbeats 800000 in
theorem resized_zero (w : World) (ao : Option Addr) (n c : Nat) (_hc : c ≤ 9223372036854775807) :
    Calls Try.prog 29 #[.slice ao n c, .int .i64 0] w fun e w' => e = .returned (.slice ao 0 c) ∧ w' = w := by
  have hcl := fun W ty => run_clear_none W ty ao c
  have hsl : ∀ W : World, (Instr.slice 22 (.slice ao n c) none (some (.int .i64 0)) none).run Try.prog W = .ok (.slice ao 0 c) W := fun W => by
    cases ao
    · go_simp
    · go_simp
  have hc' : ¬ (c : Int) < 0 := by omega
  go_enter Try.func29, Try.ntmps29
  go_wp2
  go_ret
  exact ⟨rfl, rfl⟩

set_option maxHeartbeats 800000 in
theorem resized_old (w : World) (g n c m : Nat) (cur : Array Value) (hg : w.heap[g]? = some (.cells cur 41 (0, 0))) (hcs : cur.size = c) (hm : m ≤ c) (hm0 : m ≠ 0) (_hc : c ≤ 9223372036854775807) :
    Calls Try.prog 29 #[.slice (some ⟨g, 0, none⟩) n c, .int .i64 m] w fun e w' => e = .returned (.slice (some ⟨g, 0, none⟩) m c) ∧ w' = w.setRow g (zeros m ++ cur.toList.drop m).toArray := by
  have hcl := fun ty => run_clear_row w ty g m c cur hm0 hg (by omega)
  have hm1 : (0 : Int) ≤ m := by omega
  have hm2 : (m : Int) ≤ c := by omega
  have hc' : ¬ (c : Int) < m := by omega
  have hc0 : ¬ c = 0 := by omega
  clear hg hcs
  go_enter Try.func29, Try.ntmps29
  go_wp2
  go_ret
  exact ⟨rfl, rfl⟩

theorem resized (v : Value) (n : Nat) (xs : List Value) (w : World) (m : Nat) (h : w.ownsRow 0 41 1 v n xs) (hm : m ≤ 16777216) :
    Calls Try.prog 29 #[v, .int .i64 m] w fun e w' => ∃ v', e = .returned v' ∧ w'.ownsRow 0 41 1 v' m (zeros m) ∧ w.grownBy w' v.ownBlock ∧ ∀ k, v'.ownBlock = some k → v.ownBlock = some k ∨ w.heap.size ≤ k := by
  have make : ∀ ao c, v = .slice ao n c → c < m → Calls Try.prog 29 #[v, .int .i64 m] w fun e w' => ∃ v', e = .returned v' ∧ w'.ownsRow 0 41 1 v' m (zeros m) ∧ w.grownBy w' v.ownBlock ∧ ∀ k, v'.ownBlock = some k → v.ownBlock = some k ∨ w.heap.size ≤ k := by
    intro ao c hv hc
    have := resized_make n w m hm ao c hc
    rw [← hv] at this
    refine this.mono ?_
    rintro e w' ⟨M, rfl, rfl, hMl⟩
    refine ⟨_, rfl, ⟨by rw [zeros_length, Nat.mul_one], .inr ⟨w.heap.size, m, M, rfl, Nat.zero_le _, heap_alloc_new w _, Nat.le_refl _, by unfold maxLen; omega, ?_, ?_⟩⟩, World.grownBy_alloc w _ _, fun k hk => .inr ?_⟩
    · rw [← Array.length_toList, hMl, zeros_length, Nat.mul_one]
    · rw [hMl, Nat.mul_one, List.take_of_length_le (by rw [zeros_length]; exact Nat.le_refl _)]
    · simp [Value.ownBlock] at hk
      omega
  have refl : w.grownBy w v.ownBlock := ⟨rfl, rfl, rfl, Nat.le_refl _, fun _ _ _ => rfl⟩
  rcases h.2 with ⟨rfl, rfl⟩ | ⟨g, cap, cur, rfl, hb, hg, hnc, hcm, hcs, htk⟩
  · by_cases hm0 : m = 0
    · subst hm0
      refine (resized_zero w none 0 0 (by omega)).mono ?_
      rintro e w' ⟨rfl, rfl⟩
      exact ⟨_, rfl, World.ownsRow_nil _ _ _ _, refl, fun k hk => .inl hk⟩
    · exact make none 0 rfl (by omega)
  · rw [Nat.mul_one] at hcs
    unfold maxLen at hcm
    by_cases hc : cap < m
    · exact make _ cap rfl hc
    · by_cases hm0 : m = 0
      · subst hm0
        refine (resized_zero w _ n cap (by omega)).mono ?_
        rintro e w' ⟨rfl, rfl⟩
        exact ⟨_, rfl, ⟨rfl, .inr ⟨g, cap, cur, rfl, Nat.zero_le _, hg, Nat.zero_le _, by unfold maxLen; omega, by omega, by simp [zeros]⟩⟩, refl, fun k hk => .inl hk⟩
      · refine (resized_old w g n cap m cur hg hcs (by omega) hm0 (by omega)).mono ?_
        rintro e w' ⟨rfl, rfl⟩
        refine ⟨_, rfl, ⟨by rw [zeros_length, Nat.mul_one], .inr ⟨g, cap, _, rfl, Nat.zero_le _, setRow_heap w g cur _ 41 (0, 0) hg, by omega, by unfold maxLen; omega, ?_, ?_⟩⟩, grown_setRow _, fun k hk => .inl hk⟩
        · simp [zeros_length]
          omega
        · simp [zeros, List.take_left']

end Go.Proofs.Qxb6617129a
