/-
  The decimal numeral, read back digit by digit. No model in this text.
-/
import Derived.Lib.ItoaLen
namespace Go.Proofs.Qxb6616850aDoor

/-- Digit t of m, from the left, as a number. -/
def dgt (m t : Nat) : Nat := m / 10 ^ (Lib.nDigits m - 1 - t) % 10
/-- The number that the first k digits of m spell. -/
def upTo (m k : Nat) : Nat := m / 10 ^ (Lib.nDigits m - k)

theorem dgt_lt (m t : Nat) : dgt m t < 10 := Nat.mod_lt _ (by decide)
theorem upTo_zero (m : Nat) : upTo m 0 = 0 := by unfold upTo; exact Nat.div_eq_of_lt (Lib.lt_pow_nDigits m)
theorem upTo_full (m : Nat) : upTo m (Lib.nDigits m) = m := by simp [upTo]
theorem upTo_succ (m k : Nat) (h : k < Lib.nDigits m) : upTo m (k + 1) = upTo m k * 10 + dgt m k := by
  unfold upTo dgt
  rw [show Lib.nDigits m - k = (Lib.nDigits m - 1 - k) + 1 by omega, show Lib.nDigits m - (k + 1) = Lib.nDigits m - 1 - k by omega, Nat.pow_succ, ← Nat.div_div_eq_div_mul]
  generalize m / 10 ^ (Lib.nDigits m - 1 - k) = q
  omega
theorem upTo_le (m k : Nat) : upTo m k ≤ m := Nat.div_le_self _ _
theorem dig_getD (m t : Nat) (h : t < Lib.nDigits m) : ((Lib.decDigits m).getD t 0).toNat = 48 + dgt m t := by
  have hd := dgt_lt m t
  rw [Lib.decDigits_eq, List.getD, List.getElem?_map, List.getElem?_range h]
  show (Lib.dg m (Lib.nDigits m - 1 - t)).toNat = _
  unfold dgt at hd ⊢
  unfold Lib.dg
  rw [UInt8.toNat_ofNat']
  omega
theorem pow_le_self (m : Nat) (h : 1 ≤ m) : 10 ^ (Lib.nDigits m - 1) ≤ m := by
  induction m using Nat.strongRecOn with
  | _ m ih =>
    by_cases h9 : m < 10
    · rw [Lib.nDigits_small h9]; simpa using h
    · have := ih (m / 10) (by omega) (by omega)
      have hp := Lib.nDigits_pos (m / 10)
      rw [Lib.nDigits_big h9, show Lib.nDigits (m / 10) + 1 - 1 = (Lib.nDigits (m / 10) - 1) + 1 by omega, Nat.pow_succ]
      omega
theorem dgt_first (m : Nat) (h : 1 < Lib.nDigits m) : dgt m 0 ≠ 0 := by
  have h1 : 1 ≤ m := by
    rcases Nat.eq_zero_or_pos m with rfl | h1
    · rw [Lib.nDigits_small (by omega)] at h; omega
    · exact h1
  have hs := upTo_succ m 0 (by omega)
  rw [upTo_zero] at hs
  have hp := pow_le_self m h1
  have : 0 < upTo m (0 + 1) := Nat.div_pos (by simpa using hp) (Nat.pow_pos (by decide))
  omega

end Go.Proofs.Qxb6616850aDoor
