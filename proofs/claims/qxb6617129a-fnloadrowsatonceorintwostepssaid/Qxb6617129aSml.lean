/-
  The laws' small helpers, at this dump.
-/
import Derived.Test.Qxb6617129aRsz
namespace Go.Proofs.Qxb6617129a
open Go.RowKit

set_option maxHeartbeats 800000 in
theorem allZero (Pt : Nat → Prop) (n c : Nat) (ao : Option Addr) (w : World) (h : Rs Pt IsU (zeros n) ao n c w) :
    Calls Try.prog 18 #[.slice ao n c] w fun e w' => e = .returned (.bool true) ∧ w' = w := by
  have hnc := h.le
  have hcm := h.max
  go_enter Try.func18, Try.ntmps18
  go_wp2
  go_loopw [3] (fun i wr => ∃ k : Nat, k ≤ n ∧ i = .int .i64 k ∧ wr = w) (fun i _ => n - (intOf i).toNat)
  case atStart => exact ⟨0, Nat.zero_le _, rfl, rfl⟩
  case round =>
    obtain ⟨k, hk, rfl, hw⟩ := hrel
    replace hw := hw.symm
    subst hw
    by_cases hlt : k < n
    · obtain ⟨g, o, rfl, p, q⟩ := h.at_ (by omega)
      have d1 := q k hlt
      have e : (zeros n).getD k undef = .int .u64 0 := by simp [zeros, List.getD, hlt]
      rw [e] at d1
      have b1 : (k : Int) < n := by omega
      have b0 : (0 : Int) ≤ k := by omega
      clear q e h
      go_wp2
      go_roundw
      case rel => exact ⟨k + 1, by omega, by go_num, by trivial⟩
      case measure => simp [intOf]; omega
    · go_wp2
      go_ret
      exact ⟨rfl, by trivial⟩

/-- How many words c columns take. -/
def wordsOf (c : Nat) : Nat := (c + 63) / 64

theorem wordsFor (c : Nat) (hc : c ≤ 65536) (w : World) : Calls Try.prog 17 #[.int .i64 c] w fun e w' => e = .returned (.int .i64 (wordsOf c : Nat)) ∧ w' = w := by
  by_cases h : c % 64 = 0
  · have h1 : ((c : Int) % 64 == 0) = true := by simp; omega
    have h2 : ((c : Int) % 64 != 0) = false := by simp; omega
    have h3 : (c : Int) / 64 = (wordsOf c : Nat) := by unfold wordsOf; omega
    go_enter Try.func17, Try.ntmps17
    go_wp2
    all_goals go_ret
    all_goals first | exact ⟨by go_num, rfl⟩ | trace_state
  · have h1 : ((c : Int) % 64 == 0) = false := by simp; omega
    have h2 : ((c : Int) % 64 != 0) = true := by simp; omega
    have h3 : (c : Int) / 64 + 1 = (wordsOf c : Nat) := by unfold wordsOf; omega
    go_enter Try.func17, Try.ntmps17
    go_wp2
    all_goals go_ret
    all_goals first | exact ⟨by go_num, rfl⟩ | trace_state

theorem lowBits_big (k : Nat) (hk : 64 ≤ k) (w : World) : Calls Try.prog 19 #[.int .i64 k] w fun e w' => e = .returned (.int .u64 18446744073709551615) ∧ w' = w := by
  have h1 : (64 : Int) ≤ k := by omega
  go_enter Try.func19, Try.ntmps19
  go_wp2
  go_ret
  exact ⟨rfl, rfl⟩

theorem lowBits_small (k : Nat) (h0 : 1 ≤ k) (hk : k < 64) (w : World) : Calls Try.prog 19 #[.int .i64 k] w fun e w' => e = .returned (.int .u64 ((2 ^ k - 1 : Nat) : Int)) ∧ w' = w := by
  have h1 : ¬ (64 : Int) ≤ k := by omega
  have h2 : ¬ (k : Int) ≤ 0 := by omega
  go_enter Try.func19, Try.ntmps19
  go_wp2
  go_ret
  refine ⟨?_, rfl⟩
  have hp1 : 1 ≤ 2 ^ k := Nat.one_le_two_pow
  have hp2 : 2 ^ k ≤ 2 ^ 63 := Nat.pow_le_pow_right (by omega) (by omega)
  have e1 : (2 : Int) ^ k = ((2 ^ k : Nat) : Int) := by simp
  have e2 : ((2 ^ k - 1 : Nat) : Int) = ((2 ^ k : Nat) : Int) - 1 := by omega
  rw [e2, ← e1]
  show Ending.returned (Value.int IntKind.u64 (IntKind.u64.wrap (IntKind.u64.wrap (2 ^ k) - 1))) = _
  rw [IntWalk.u64_in ((2 : Int) ^ k) (by rw [e1]; omega), IntWalk.u64_in _ (by rw [e1]; omega)]

/-- The word whose k lowest bits are set. -/
def low (k : Nat) : Nat := 2 ^ (min 64 k) - 1

theorem lowBits (k : Nat) (h0 : 1 ≤ k) (w : World) : Calls Try.prog 19 #[.int .i64 k] w fun e w' => e = .returned (.int .u64 (low k : Nat)) ∧ w' = w := by
  by_cases h : k < 64
  · have e : low k = 2 ^ k - 1 := by unfold low; rw [Nat.min_eq_right (by omega)]
    rw [e]
    exact lowBits_small k h0 h w
  · have e : low k = 18446744073709551615 := by unfold low; rw [Nat.min_eq_left (by omega)]
    rw [e]
    exact lowBits_big k (by omega) w

/-- The size that Reset is tried at. -/
def Fits (r c : Int) : Prop := ∃ rn cn : Nat, r = rn ∧ c = cn ∧ rn ≤ 65536 ∧ cn ≤ 65536 ∧ rn * wordsOf cn ≤ 65536
/-- It answers a bool; where that is 'when', Q. -/
def Ans (when : Bool) (Q : Prop) (e : Ending) : Prop := ∃ b, e = .returned (.bool b) ∧ (b = when → Q)
theorem Ans.other {t b : Bool} {Q : Prop} (h : b ≠ t) : Ans t Q (.returned (.bool b)) := ⟨b, rfl, fun e => absurd e h⟩
theorem Ans.of {t b : Bool} {Q : Prop} (h : Q) : Ans t Q (.returned (.bool b)) := ⟨b, rfl, fun _ => h⟩

set_option maxHeartbeats 3200000 in
theorem resetFits (r c : Int) (w : World) : Calls Try.prog 8 #[.int .i64 r, .int .i64 c] w fun e w' => Ans true (Fits r c) e ∧ w' = w := by
  by_cases h1 : r < 0
  · go_enter Try.func8, Try.ntmps8
    go_wp2
    go_ret
    exact ⟨Ans.other (by decide), rfl⟩
  by_cases h2 : 65536 < r
  · go_enter Try.func8, Try.ntmps8
    go_wp2
    go_ret
    exact ⟨Ans.other (by decide), rfl⟩
  by_cases h3 : c < 0
  · go_enter Try.func8, Try.ntmps8
    go_wp2
    go_ret
    exact ⟨Ans.other (by decide), rfl⟩
  by_cases h4 : 65536 < c
  · go_enter Try.func8, Try.ntmps8
    go_wp2
    go_ret
    exact ⟨Ans.other (by decide), rfl⟩
  obtain ⟨rn, rfl⟩ : ∃ rn : Nat, r = rn := ⟨r.toNat, by omega⟩
  obtain ⟨cn, rfl⟩ : ∃ cn : Nat, c = cn := ⟨c.toNat, by omega⟩
  have hwc := wordsFor cn (by omega)
  have hwb : wordsOf cn ≤ 1024 := by unfold wordsOf; omega
  have hfin : rn ≤ 65536 ∧ cn ≤ 65536 := by omega
  have Hfin := Lib.hid hfin
  clear hfin
  generalize hwv : wordsOf cn = wn at hwc hwb
  have Hwv := Lib.hid hwv
  clear hwv
  by_cases h5 : wn = 0
  · subst h5
    go_enter Try.func8, Try.ntmps8
    go_wp2_with (go_at_call 17; refine (hwc _).mono ?_; rintro e w1 ⟨rfl, hw1⟩; refine Hid.out ?_)
    refine Lib.hid ?_
    replace hw1 := hw1.symm
    subst hw1
    go_wp2
    go_ret
    exact ⟨Ans.of ⟨rn, cn, rfl, rfl, Hfin.out.1, Hfin.out.2, by rw [Hwv.out]; omega⟩, rfl⟩
  · have h6 : ((wn : Int) == 0) = false := by simp; omega
    have h7 : ¬ (wn : Int) = 0 := by omega
    have h8 : (1 : Int) ≤ wn := by omega
    clear h5
    go_enter Try.func8, Try.ntmps8
    go_wp2_with (go_at_call 17; refine (hwc _).mono ?_; rintro e w1 ⟨rfl, hw1⟩; refine Hid.out ?_)
    refine Lib.hid ?_
    replace hw1 := hw1.symm
    subst hw1
    go_wp2
    go_ret
    refine ⟨⟨_, rfl, fun hd => ⟨rn, cn, rfl, rfl, Hfin.out.1, Hfin.out.2, ?_⟩⟩, rfl⟩
    rw [Hwv.out]
    have hd2 : (rn : Int) ≤ 65536 / wn := of_decide_eq_true hd
    have hd3 : rn ≤ 65536 / wn := Int.ofNat_le.1 (by rw [Int.natCast_ediv]; exact hd2)
    exact (Nat.le_div_iff_mul_le (by omega)).1 hd3

end Go.Proofs.Qxb6617129a
