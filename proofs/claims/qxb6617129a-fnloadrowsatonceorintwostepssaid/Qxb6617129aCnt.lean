/-
  zzCountBits over the contents of 'all', at this dump.
-/
import Derived.Test.Qxb6617129aLow
import Derived.Laws.Bits64b
namespace Go.Proofs.Qxb6617129a
open Go.RowKit

theorem bit_u64 (m t : Nat) (hm : m < 18446744073709551616) : bits .and .u64 ((m : Int) / 2 ^ t) 1 = if m.testBit t then 1 else 0 := by
  have e1 : ((m : Int) / 2 ^ t) = ((m / 2 ^ t : Nat) : Int) := by push_cast; rfl
  have e2 := bits_and_u64_nat (m / 2 ^ t) 1 (Nat.lt_of_le_of_lt (Nat.div_le_self _ _) hm) (by omega)
  rw [e1]
  rw [show ((1 : Int)) = ((1 : Nat) : Int) from rfl, e2, Nat.and_one_is_mod, Nat.testBit_eq_decide_div_mod_eq]
  have := Nat.mod_two_eq_zero_or_one (m / 2 ^ t)
  rcases this with h | h <;> simp [h]

set_option maxHeartbeats 400000 in
theorem countBits (Pt : Nat → Prop) (cn wn c : Nat) (ao : Option Addr) (w : World) (h : Rs Pt IsU (allL cn wn) ao wn c w) (hc : cn ≤ 65536) (hwn : wordsOf cn = wn) :
    Calls Try.prog 15 #[.slice ao wn c] w fun e w' => e = .returned (.int .i64 cn) ∧ w' = w := by
  have hnc := h.le
  have hcm := h.max
  have hwb : wn ≤ 1024 := by rw [← hwn]; unfold wordsOf; omega
  have hfin : min cn (64 * wn) = cn := by rw [← hwn]; unfold wordsOf; omega
  have Hf := Lib.hid (And.intro hwn hfin)
  clear hwn hfin
  go_enter Try.func15, Try.ntmps15
  go_wp2
  go_loopw [3, 4, 5] (fun n i _ wr => ∃ k : Nat, k ≤ wn ∧ i = .int .i64 k ∧ n = .int .i64 (min cn (64 * k) : Nat) ∧ wr = w) (fun _ i _ _ => wn - (intOf i).toNat)
  case atStart => exact ⟨0, Nat.zero_le _, rfl, by simp, rfl⟩
  case round =>
    obtain ⟨k, hk, rfl, rfl, hw⟩ := hrel
    replace hw := hw.symm
    subst hw
    by_cases hlt : k < wn
    · obtain ⟨g, o, rfl, p, q⟩ := h.at_ (by omega)
      have d1 := q k hlt
      rw [allL_getD cn wn k hlt] at d1
      have b1 : (k : Int) < wn := by omega
      have b0 : (0 : Int) ≤ k := by omega
      clear q h
      go_wp2
      go_loopw [3, 5] (fun n j wr => ∃ t : Nat, t ≤ 64 ∧ j = .int .i64 t ∧ n = .int .i64 (min cn (64 * k + t) : Nat) ∧ wr = w) (fun _ j _ => 64 - (intOf j).toNat)
      case atStart => exact ⟨0, by omega, rfl, by simp, rfl⟩
      case round =>
        obtain ⟨t, ht, rfl, rfl, hw⟩ := hrel
        replace hw := hw.symm
        subst hw
        by_cases h64 : t < 64
        · have c1 : (t : Int) < 64 := by omega
          have c0 : (0 : Int) ≤ t := by omega
          have hb := bit_u64 (low (cn - 64 * k)) t (low_lt _)
          rw [low_bit] at hb
          by_cases hin : 64 * k + t < cn
          · have hb2 : (bits BinOp.and IntKind.u64 (((low (cn - 64 * k) : Nat) : Int) / 2 ^ t) 1 == 1) = true := by
              rw [hb, if_pos (by simp only [decide_eq_true_eq]; omega)]; rfl
            clear hb
            have wr1 : wrap64 (((min cn (64 * k + t) : Nat) : Int) + 1) = ((min cn (64 * k + (t + 1)) : Nat) : Int) := by unfold wrap64; omega
            go_wp2
            refine ⟨⟨t + 1, by omega, by go_num, ?_, by trivial⟩, by simp [intOf]; omega⟩
            congr 1
            omega
          · have hb2 : (bits BinOp.and IntKind.u64 (((low (cn - 64 * k) : Nat) : Int) / 2 ^ t) 1 == 1) = false := by
              rw [hb, if_neg (by simp only [decide_eq_true_eq]; omega)]; rfl
            clear hb
            go_wp2
            refine ⟨⟨t + 1, by omega, by go_num, ?_, by trivial⟩, by simp [intOf]; omega⟩
            congr 1
            omega
        · have c1 : ¬ (t : Int) < 64 := by omega
          go_wp2
          refine ⟨⟨k + 1, by omega, by go_num, ?_, by trivial⟩, by simp [intOf]; omega⟩
          congr 1
          omega
    · go_wp2
      go_ret
      have e : k = wn := by omega
      subst e
      refine ⟨?_, by trivial⟩
      rw [Hf.out.2]
      rfl

end Go.Proofs.Qxb6617129a
