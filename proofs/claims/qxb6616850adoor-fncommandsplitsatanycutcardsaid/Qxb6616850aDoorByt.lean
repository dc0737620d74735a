/-
  The laws' own bounds on what their arguments hold, at this dump.
-/
import Derived.Test.Qxb6616850aDoorCmd
namespace Go.Proofs.Qxb6616850aDoor
open Go.RowKit

set_option maxHeartbeats 800000 in
set_option maxRecDepth 100000 in
theorem bytes27 (Pt : Nat → Prop) (L : List ByteArray) (ao : Option Addr) (n c : Nat) (w : World) (hA : Args Pt L ao n c w) (hbig : ∀ k, (L.getD k ByteArray.empty).size ≤ maxLen) :
    Calls Tryd.prog 27 #[.slice ao n c] w fun e w' => ∃ b, e = .returned (.bool b) ∧ w' = w ∧ (b = true → ∀ k, k < n → (L.getD k ByteArray.empty).size ≤ 1048576) := by
  have hnc := hA.le
  have hcm := hA.max
  by_cases h1 : n ≤ 1048576
  · have t1 : decide ((1048576 : Int) < n) = false := by simp; omega
    go_enter Tryd.func27, Tryd.ntmps27
    go_wp2
    go_loopw [3, 4] (fun v i wr => ∃ k t : Nat, k ≤ n ∧ t ≤ 1048576 ∧ i = .int .i64 k ∧ v = .int .i64 t ∧ wr = w ∧ Hid (∀ j, j < k → (L.getD j ByteArray.empty).size ≤ 1048576)) (fun _ i _ => n - (intOf i).toNat)
    case atStart => exact ⟨0, n, Nat.zero_le _, h1, rfl, by go_num, rfl, Lib.hid (fun j hj => by omega)⟩
    case round =>
      obtain ⟨k, t, hk, ht, rfl, rfl, rfl, Hs⟩ := hrel
      by_cases hlt : k < n
      · obtain ⟨g, o, rfl, pg, hc⟩ := hA.at_ (by omega)
        have c1 := hc k hlt
        have hb := hbig k
        obtain ⟨a, ha⟩ : ∃ a, L.getD k ByteArray.empty = a := ⟨_, rfl⟩
        rw [ha] at c1 hb
        unfold maxLen at hb
        have b0 : (0 : Int) ≤ k := by omega
        have b1 : (k : Int) < n := by omega
        have Ha := Lib.hid ha
        clear ha hc hA hbig
        by_cases h2 : a.size ≤ 1048576
        · have t2 : decide ((1048576 : Int) < a.size) = false := by simp; omega
          by_cases h3 : t + a.size ≤ 1048576
          · have t3 : decide ((1048576 : Int) < t + a.size) = false := by simp; omega
            go_wp2
            go_roundw
            case rel => exact ⟨k + 1, t + a.size, by omega, h3, by go_num, by go_num, by trivial, Lib.hid (fun j hj => by rcases Nat.lt_succ_iff_lt_or_eq.1 hj with h | h; exact Hs.out j h; subst h; rw [Ha.out]; exact h2)⟩
            case measure => simp [intOf]; omega
          · have t3 : decide ((1048576 : Int) < t + a.size) = true := by simp; omega
            go_wp2
            go_ret
            exact ⟨_, rfl, by trivial, fun h => by cases h⟩
        · have t2 : decide ((1048576 : Int) < a.size) = true := by simp; omega
          go_wp2
          go_ret
          exact ⟨_, rfl, by trivial, fun h => by cases h⟩
      · go_wp2
        go_ret
        exact ⟨_, rfl, by trivial, fun _ j hj => Hs.out j (by omega)⟩
  · have t1 : decide ((1048576 : Int) < n) = true := by simp; omega
    go_enter Tryd.func27, Tryd.ntmps27
    go_wp2
    go_ret
    exact ⟨_, rfl, by trivial, fun h => by cases h⟩

set_option maxHeartbeats 800000 in
set_option maxRecDepth 100000 in
theorem bytes24 (Pt : Nat → Prop) (L : List ByteArray) (ao : Option Addr) (n c : Nat) (kv : Int) (w : World) (hA : Args Pt L ao n c w) (hbig : ∀ k, (L.getD k ByteArray.empty).size ≤ maxLen) :
    Calls Tryd.prog 24 #[.slice ao n c, .int .i64 kv] w fun e w' => ∃ b, e = .returned (.bool b) ∧ w' = w ∧ (b = true → ∀ k, k < n → (L.getD k ByteArray.empty).size ≤ 1048576) := by
  have hnc := hA.le
  have hcm := hA.max
  by_cases h1 : n ≤ 1048576
  · have t1 : decide ((1048576 : Int) < n) = false := by simp; omega
    go_enter Tryd.func24, Tryd.ntmps24
    go_wp2
    go_loopw [5, 6] (fun v i wr => ∃ k t : Nat, k ≤ n ∧ t ≤ 1048576 ∧ i = .int .i64 k ∧ v = .int .i64 t ∧ wr = w ∧ Hid (∀ j, j < k → (L.getD j ByteArray.empty).size ≤ 1048576)) (fun _ i _ => n - (intOf i).toNat)
    case atStart => exact ⟨0, n, Nat.zero_le _, h1, rfl, by go_num, rfl, Lib.hid (fun j hj => by omega)⟩
    case round =>
      obtain ⟨k, t, hk, ht, rfl, rfl, rfl, Hs⟩ := hrel
      by_cases hlt : k < n
      · obtain ⟨g, o, rfl, pg, hc⟩ := hA.at_ (by omega)
        have c1 := hc k hlt
        have hb := hbig k
        obtain ⟨a, ha⟩ : ∃ a, L.getD k ByteArray.empty = a := ⟨_, rfl⟩
        rw [ha] at c1 hb
        unfold maxLen at hb
        have b0 : (0 : Int) ≤ k := by omega
        have b1 : (k : Int) < n := by omega
        have Ha := Lib.hid ha
        clear ha hc hA hbig
        by_cases h2 : a.size ≤ 1048576
        · have t2 : decide ((1048576 : Int) < a.size) = false := by simp; omega
          by_cases h3 : t + a.size ≤ 1048576
          · have t3 : decide ((1048576 : Int) < t + a.size) = false := by simp; omega
            go_wp2
            go_roundw
            case rel => exact ⟨k + 1, t + a.size, by omega, h3, by go_num, by go_num, by trivial, Lib.hid (fun j hj => by rcases Nat.lt_succ_iff_lt_or_eq.1 hj with h | h; exact Hs.out j h; subst h; rw [Ha.out]; exact h2)⟩
            case measure => simp [intOf]; omega
          · have t3 : decide ((1048576 : Int) < t + a.size) = true := by simp; omega
            go_wp2
            go_ret
            exact ⟨_, rfl, by trivial, fun h => by cases h⟩
        · have t2 : decide ((1048576 : Int) < a.size) = true := by simp; omega
          go_wp2
          go_ret
          exact ⟨_, rfl, by trivial, fun h => by cases h⟩
      · go_wp2
        go_ret
        exact ⟨_, rfl, by trivial, fun _ j hj => Hs.out j (by omega)⟩
  · have t1 : decide ((1048576 : Int) < n) = true := by simp; omega
    go_enter Tryd.func24, Tryd.ntmps24
    go_wp2
    go_ret
    exact ⟨_, rfl, by trivial, fun h => by cases h⟩

end Go.Proofs.Qxb6616850aDoor
