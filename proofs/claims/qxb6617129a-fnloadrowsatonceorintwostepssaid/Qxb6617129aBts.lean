/-
  A word out of the bit string: bitsAt, zzBitsFrom, at this dump.
-/
import Derived.Test.Qxb6617129aCnt
namespace Go.Proofs.Qxb6617129a
open Go.RowKit

def un : Value → Nat
  | .int _ z => z.toNat
  | _ => 0
def wN (ce : List Value) (j : Nat) : Nat := un (ce.getD j undef)
/-- The 64 bits of ce from bit 64 a + b on that the mask m asks for, as bitsAt reckons them. -/
def bitsN (ce : List Value) (a b m : Nat) : Nat :=
  ((wN ce a / 2 ^ b) ||| (if 0 < b ∧ a + 1 < ce.length then (wN ce (a + 1) * 2 ^ (64 - b)) % 18446744073709551616 else 0)) &&& m

theorem wN_of {ce : List Value} {j : Nat} (h : IsU (ce.getD j undef)) : ce.getD j undef = .int .u64 (wN ce j : Nat) ∧ wN ce j < 18446744073709551616 := by
  obtain ⟨z, e, hz⟩ := h
  unfold wN
  rw [e]
  exact ⟨by simp [un], by simpa [un] using hz⟩

theorem div_nat (x k : Nat) : ((x : Int) / 2 ^ k) = ((x / 2 ^ k : Nat) : Int) := by push_cast; rfl
theorem shl_nat (x k : Nat) : IntKind.u64.wrap ((x : Int) * 2 ^ k) = ((x * 2 ^ k % 18446744073709551616 : Nat) : Int) := by
  have e : (x : Int) * 2 ^ k = ((x * 2 ^ k : Nat) : Int) := by push_cast; rfl
  rw [e]
  generalize x * 2 ^ k = P
  rw [IntKind.wrap_u64]
  omega
theorem div_lt64 {x : Nat} (h : x < 18446744073709551616) (k : Nat) : x / 2 ^ k < 18446744073709551616 := Nat.lt_of_le_of_lt (Nat.div_le_self _ _) h
theorem or_lt64 {x y : Nat} (h : x < 18446744073709551616) (k : y < 18446744073709551616) : x ||| y < 18446744073709551616 := Nat.or_lt_two_pow (n := 64) h k
theorem bitsN_one {ce : List Value} {n a b m : Nat} (hl : ce.length = n) (c1 : 0 < b) (c2 : a + 1 < n) (z1 : wN ce a < 18446744073709551616) (hm : m < 18446744073709551616) :
    bits .and .u64 (bits .or .u64 ((wN ce a : Int) / 2 ^ b) (IntKind.u64.wrap ((wN ce (a + 1) : Int) * 2 ^ (64 - b)))) (m : Int) = ((bitsN ce a b m : Nat) : Int) := by
  have hlt : wN ce (a + 1) * 2 ^ (64 - b) % 18446744073709551616 < 18446744073709551616 := Nat.mod_lt _ (by omega)
  rw [div_nat, shl_nat, bits_or_u64_nat _ _ (div_lt64 z1 b) hlt, bits_and_u64_nat _ _ (or_lt64 (div_lt64 z1 b) hlt) hm]
  unfold bitsN
  rw [if_pos ⟨c1, by omega⟩]
theorem bitsN_two {ce : List Value} {n a b m : Nat} (hl : ce.length = n) (c : ¬ (0 < b ∧ a + 1 < n)) (z1 : wN ce a < 18446744073709551616) (hm : m < 18446744073709551616) :
    bits .and .u64 ((wN ce a : Int) / 2 ^ b) (m : Int) = ((bitsN ce a b m : Nat) : Int) := by
  rw [div_nat, bits_and_u64_nat _ _ (div_lt64 z1 b) hm]
  unfold bitsN
  rw [if_neg (by rw [hl]; exact c), Nat.or_zero]

set_option maxHeartbeats 400000 in
theorem bitsAt (Pt : Nat → Prop) (ce : List Value) (ao : Option Addr) (n c a b m : Nat) (i : Int) (w : World) (h : Rs Pt IsU ce ao n c w) (ha : a < n) (hb : b < 64) (h1 : i / 64 = a) (h2 : i % 64 = b) (hi : 0 ≤ i) (hm : m < 18446744073709551616) :
    Calls Try.prog 33 #[.slice ao n c, .int .u64 i, .int .u64 m] w fun e w' => e = .returned (.int .u64 (bitsN ce a b m : Nat)) ∧ w' = w := by
  have hnc := h.le
  have hcm := h.max
  have hl := Lib.hid h.len
  obtain ⟨g, o, rfl, p, q⟩ := h.at_ (by omega)
  have d1 := q a ha
  obtain ⟨e1, z1⟩ := wN_of (h.elt ha)
  rw [e1] at d1
  have a1 : (a : Int) < n := by omega
  have a0 : (0 : Int) ≤ a := by omega
  have b1 : (b : Int) ≤ 64 := by omega
  have b0 : (0 : Int) ≤ b := by omega
  have h1w : IntKind.u64.wrap (i.tdiv 64) = (a : Int) := by
    rw [Int.tdiv_eq_ediv_of_nonneg hi, h1]
    exact IntWalk.u64_in _ ⟨by omega, by omega⟩
  by_cases c1 : 0 < b
  · have c1' : (0 : Int) < b := by omega
    by_cases c2 : a + 1 < n
    · have c2' : (a : Int) + 1 < n := by omega
      have d2 := q (a + 1) c2
      obtain ⟨e2, z2⟩ := wN_of (h.elt c2)
      rw [e2] at d2
      clear q h e1 e2
      go_enter Try.func33, Try.ntmps33
      go_wp2
      go_ret
      exact ⟨congrArg (fun z => Ending.returned (.int .u64 z)) (bitsN_one hl.out c1 c2 z1 hm), rfl⟩
    · have c2' : ¬ (a : Int) + 1 < n := by omega
      clear q h e1
      go_enter Try.func33, Try.ntmps33
      go_wp2
      go_ret
      exact ⟨congrArg (fun z => Ending.returned (.int .u64 z)) (bitsN_two hl.out (fun c => c2 c.2) z1 hm), rfl⟩
  · have c1' : ¬ (0 : Int) < b := by omega
    clear q h e1
    go_enter Try.func33, Try.ntmps33
    go_wp2
    go_ret
    exact ⟨congrArg (fun z => Ending.returned (.int .u64 z)) (bitsN_two hl.out (fun c => c1 c.1) z1 hm), rfl⟩

end Go.Proofs.Qxb6617129a
