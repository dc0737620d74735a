/-
  zzBitsFrom, at this dump.
-/
import Derived.Test.Qxb6617129aBts
namespace Go.Proofs.Qxb6617129a
open Go.RowKit

theorem mod_succ_bit (N t : Nat) : N % 2 ^ (t + 1) = if N.testBit t then N % 2 ^ t ||| 2 ^ t else N % 2 ^ t := by
  apply Nat.eq_of_testBit_eq
  intro i
  rw [Nat.testBit_mod_two_pow]
  split
  · rename_i h
    rw [Nat.testBit_or, Nat.testBit_mod_two_pow, Nat.testBit_two_pow]
    by_cases h1 : t = i
    · subst h1; simp [h]
    · by_cases h2 : i < t
      · simp [h1, h2, show i < t + 1 by omega]
      · simp [h1, h2, show ¬ i < t + 1 by omega]
  · rename_i h
    rw [Nat.testBit_mod_two_pow]
    by_cases h1 : t = i
    · subst h1; simp [h]
    · by_cases h2 : i < t
      · simp [h2, show i < t + 1 by omega]
      · simp [h2, show ¬ i < t + 1 by omega]

theorem bitsN_bit {ce : List Value} {n a b m t : Nat} (hl : ce.length = n) (ha : a < n) (hb : b < 64) (ht : t < 64) (z1 : wN ce a < 18446744073709551616) :
    (bitsN ce a b m).testBit t = (m.testBit t && (decide ((64 * a + b + t) / 64 < n) && (wN ce ((64 * a + b + t) / 64)).testBit ((64 * a + b + t) % 64))) := by
  unfold bitsN
  have e64 : (18446744073709551616 : Nat) = 2 ^ 64 := rfl
  rw [e64] at z1 ⊢
  rw [Nat.testBit_and, Nat.testBit_or, Nat.testBit_div_two_pow, Bool.and_comm]
  congr 1
  by_cases h : b + t < 64
  · have q1 : (64 * a + b + t) / 64 = a := by omega
    have q2 : (64 * a + b + t) % 64 = t + b := by omega
    rw [q1, q2]
    have : (if 0 < b ∧ a + 1 < ce.length then wN ce (a + 1) * 2 ^ (64 - b) % 2 ^ 64 else 0).testBit t = false := by
      split
      · rw [Nat.testBit_mod_two_pow, ← Nat.shiftLeft_eq, Nat.testBit_shiftLeft]
        simp [show ¬ 64 - b ≤ t by omega]
      · simp
    rw [this]
    simp [ha]
  · have q1 : (64 * a + b + t) / 64 = a + 1 := by omega
    have q2 : (64 * a + b + t) % 64 = t - (64 - b) := by omega
    rw [q1, q2]
    have h0 : (wN ce a).testBit (t + b) = false := Nat.testBit_lt_two_pow (Nat.lt_of_lt_of_le z1 (Nat.pow_le_pow_right (by omega) (by omega)))
    rw [h0, Bool.false_or]
    by_cases h2 : a + 1 < n
    · rw [if_pos ⟨by omega, by omega⟩, Nat.testBit_mod_two_pow, ← Nat.shiftLeft_eq, Nat.testBit_shiftLeft]
      simp [h2, ht, show 64 - b ≤ t by omega]
    · rw [if_neg (by omega)]
      simp [h2]

theorem or_bit (N t : Nat) (ht : t < 64) (hN : N < 18446744073709551616) (h : N % 2 ^ (t + 1) = N % 2 ^ t ||| 2 ^ t) :
    bits .or .u64 ((N : Int) % 2 ^ t) (IntKind.u64.wrap (2 ^ t)) = ((N % 2 ^ (t + 1) : Nat) : Int) := by
  have hl : N % 2 ^ t < 18446744073709551616 := Nat.lt_of_le_of_lt (Nat.mod_le _ _) hN
  have hp : 2 ^ t ≤ 2 ^ 63 := Nat.pow_le_pow_right (by omega) (by omega)
  have e0 : (N : Int) % 2 ^ t = ((N % 2 ^ t : Nat) : Int) := by push_cast; rfl
  have e1 : (2 : Int) ^ t = ((2 ^ t : Nat) : Int) := by simp
  rw [e0, e1, h]
  generalize N % 2 ^ t = Q at hl
  generalize 2 ^ t = P at hp
  have hp2 : P < 18446744073709551616 := by omega
  rw [IntWalk.u64_in (P : Int) (by omega), bits_or_u64_nat _ _ hl hp2]

set_option maxHeartbeats 400000 in
theorem bitsFrom (Pt : Nat → Prop) (ce : List Value) (ao : Option Addr) (n c a b m : Nat) (s : Nat) (w : World) (h : Rs Pt IsU ce ao n c w) (ha : a < n) (hb : b < 64) (hs : s = 64 * a + b) (hs2 : s ≤ 17592186044416) (hm : m < 18446744073709551616) :
    Calls Try.prog 23 #[.slice ao n c, .int .i64 (s : Nat), .int .u64 m] w fun e w' => e = .returned (.int .u64 (bitsN ce a b m : Nat)) ∧ w' = w := by
  have hnc := h.le
  have hcm := h.max
  have hl := Lib.hid h.len
  obtain ⟨N, hN⟩ : ∃ N, N = bitsN ce a b m := ⟨_, rfl⟩
  have HBt := Lib.hid (fun t ht => bitsN_bit (m := m) (t := t) hl.out ha hb ht (wN_of (h.elt ha)).2)
  have hNlt : N < 18446744073709551616 := by
    rw [hN]; unfold bitsN
    exact Nat.lt_of_le_of_lt Nat.and_le_right hm
  rw [← hN] at HBt ⊢
  have Hs := Lib.hid hs
  clear hN hs
  go_enter Try.func23, Try.ntmps23
  go_wp2
  go_loopw [7, 8, 9, 10] (fun o j _ _ wr => ∃ t : Nat, t ≤ 64 ∧ j = .int .i64 t ∧ o = .int .u64 (N % 2 ^ t : Nat) ∧ wr = w) (fun _ j _ _ _ => 64 - (intOf j).toNat)
  case atStart => exact ⟨0, by omega, rfl, by simp [Nat.mod_one], rfl⟩
  case round =>
    obtain ⟨t, ht, rfl, rfl, hw⟩ := hrel
    replace hw := hw.symm
    subst hw
    by_cases h64 : t < 64
    · have c1 : (t : Int) < 64 := by omega
      have c0 : (0 : Int) ≤ t := by omega
      have hbit := HBt.out t h64
      have hmod := mod_succ_bit N t
      have hb1 := bit_u64 m t hm
      by_cases hmt : m.testBit t
      · obtain ⟨p, hp⟩ : ∃ p, p = (64 * a + b + t) / 64 := ⟨_, rfl⟩
        obtain ⟨r, hr⟩ : ∃ r, r = (64 * a + b + t) % 64 := ⟨_, rfl⟩
        rw [← hp, ← hr, hmt, Bool.true_and] at hbit
        rw [hmt, if_pos rfl] at hb1
        have hb2 : (bits BinOp.and IntKind.u64 ((m : Int) / 2 ^ t) 1 == 0) = false := by rw [hb1]; rfl
        clear hb1
        have r1 : ((s : Int) + (t : Int)) / 64 = (p : Int) := by have := Hs.out; omega
        have r2 : ((s : Int) + (t : Int)) % 64 = (r : Int) := by have := Hs.out; omega
        have r3 : (r : Int) < 64 := by omega
        have r0 : (0 : Int) ≤ r := by omega
        have p0 : (0 : Int) ≤ p := by omega
        clear hp hr
        by_cases hpn : p < n
        · obtain ⟨g, o, rfl, pp, q⟩ := h.at_ (by omega)
          have d1 := q p hpn
          obtain ⟨e1, z1⟩ := wN_of (h.elt hpn)
          rw [e1] at d1
          have pn : (p : Int) < n := by omega
          have hb3 := bit_u64 (wN ce p) r z1
          clear q e1
          by_cases hct : (wN ce p).testBit r
          · rw [hct, if_pos rfl] at hb3
            have hb4 : (bits BinOp.and IntKind.u64 ((wN ce p : Int) / 2 ^ r) 1 == 1) = true := by rw [hb3]; rfl
            rw [hct] at hbit
            simp only [hpn, decide_true, Bool.true_and] at hbit
            rw [hbit, if_pos rfl] at hmod
            clear hb3
            go_wp2
            refine ⟨⟨t + 1, by omega, by go_num, ?_, by trivial⟩, by simp [intOf]; omega⟩
            exact congrArg (Value.int .u64) (or_bit N t h64 hNlt hmod)
          · have hct2 : (wN ce p).testBit r = false := by simpa using hct
            rw [hct2] at hb3 hbit
            have hb4 : (bits BinOp.and IntKind.u64 ((wN ce p : Int) / 2 ^ r) 1 == 1) = false := by rw [hb3]; rfl
            rw [Bool.and_false] at hbit
            rw [hbit] at hmod
            have hm2 : N % 2 ^ (t + 1) = N % 2 ^ t := by simpa using hmod
            clear hb3 hmod hct
            go_wp2
            refine ⟨⟨t + 1, by omega, by go_num, ?_, by trivial⟩, by simp [intOf]; omega⟩
            rw [hm2]
        · have pn : ¬ (p : Int) < n := by omega
          rw [decide_eq_false hpn, Bool.false_and] at hbit
          rw [hbit] at hmod
          have hm2 : N % 2 ^ (t + 1) = N % 2 ^ t := by simpa using hmod
          clear hmod
          go_wp2
          refine ⟨⟨t + 1, by omega, by go_num, ?_, by trivial⟩, by simp [intOf]; omega⟩
          rw [hm2]
      · have hmt2 : m.testBit t = false := by simpa using hmt
        rw [hmt2] at hb1 hbit
        have hb2 : (bits BinOp.and IntKind.u64 ((m : Int) / 2 ^ t) 1 == 0) = true := by rw [hb1]; rfl
        rw [Bool.false_and] at hbit
        rw [hbit] at hmod
        have hm2 : N % 2 ^ (t + 1) = N % 2 ^ t := by simpa using hmod
        clear hb1 hmod hmt
        go_wp2
        refine ⟨⟨t + 1, by omega, by go_num, ?_, by trivial⟩, by simp [intOf]; omega⟩
        rw [hm2]
    · have c1 : ¬ (t : Int) < 64 := by omega
      have e : t = 64 := by omega
      subst e
      go_wp2
      go_ret
      refine ⟨?_, by trivial⟩
      have e : (N : Int) % 18446744073709551616 = N := by omega
      rw [e]
      rfl

end Go.Proofs.Qxb6617129a
