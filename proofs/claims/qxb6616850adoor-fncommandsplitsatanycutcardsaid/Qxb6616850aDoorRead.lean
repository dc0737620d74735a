/-
  zzReadHeader, at this dump, where a header lies at the place.
-/
import Derived.Test.Qxb6616850aDoorOut
import Derived.Test.Qxb6616850aDoorHead
import Derived.Test.Qxb6616850aDoorDig
import Derived.OwnWalk
namespace Go.Proofs.Qxb6616850aDoor
open Go.RowKit

/-- At place p of l lies a header: the kind, m's numeral, CR LF. -/
structure HdrAt (l : List UInt8) (p : Nat) (kind : Int) (m : Nat) : Prop where
  k0 : byteAt l p = kind
  dig : ∀ t, t < Lib.nDigits m → byteAt l (p + 1 + t) = 48 + dgt m t
  cr : byteAt l (p + 1 + Lib.nDigits m) = 13
  lf : byteAt l (p + 1 + Lib.nDigits m + 1) = 10
  le : p + 1 + Lib.nDigits m + 2 ≤ l.length

theorem byteAt_left (l m : List UInt8) (k : Nat) (h : k < l.length) : byteAt (l ++ m) k = byteAt l k := by
  simp only [byteAt, List.getD]
  rw [List.getElem?_append_left h]

theorem HdrAt.of (pre rest : List UInt8) (kind : UInt8) (m : Nat) : HdrAt (pre ++ (hline kind m ++ rest)) pre.length (kind.toNat : Int) m := by
  have hl : (Lib.itoa (m : Int)).length = Lib.nDigits m := by rw [Lib.itoa_nonneg, Lib.decDigits_length]
  have key : ∀ t, byteAt (pre ++ (hline kind m ++ rest)) (pre.length + 1 + t) = byteAt (Lib.itoa m ++ ([13, 10] ++ rest)) t := fun t => by
    rw [show pre.length + 1 + t = pre.length + (t + 1) by omega, byteAt_right]
    simp [hline, byteAt, List.getD]
  refine ⟨?_, fun t ht => ?_, ?_, ?_, ?_⟩
  · have := byteAt_right pre (hline kind m ++ rest) 0
    rw [Nat.add_zero] at this
    rw [this]
    simp [hline, byteAt]
  · rw [key, byteAt_left _ _ _ (by rw [hl]; exact ht), Lib.itoa_nonneg]
    have := dig_getD m t ht
    unfold byteAt
    omega
  · rw [key]
    have := byteAt_right (Lib.itoa m) ([13, 10] ++ rest) 0
    rw [hl, Nat.add_zero] at this
    rw [this]
    rfl
  · rw [show pre.length + 1 + Lib.nDigits m + 1 = pre.length + 1 + (Lib.nDigits m + 1) by omega, key]
    have := byteAt_right (Lib.itoa m) ([13, 10] ++ rest) 1
    rw [hl] at this
    rw [this]
    rfl
  · simp only [List.length_append, hline_length, hl]
    omega

set_option maxHeartbeats 1600000 in
set_option maxRecDepth 100000 in
theorem readHeader (l : List UInt8) (g o c p n m nd : Nat) (kind : Int) (w : World) (hr : Rd l g o w) (hn : l.length = n) (hN : n ≤ 140737488355328) (hd : Lib.nDigits m = nd) (h9 : nd ≤ 9) (hm : m ≤ 1048576) (H : HdrAt l p kind m) :
    Calls Tryd.prog 42 #[.slice (some ⟨g, o, none⟩) n c, .int .i64 p, .int .u8 kind] w fun e w' => e = .returned (.tuple #[.int .i64 m, .int .i64 (p + 1 + nd + 2 : Nat), .bool true]) ∧ w' = w := by
  subst hn
  have hle := H.le
  have c0 := hr p (by omega)
  rw [H.k0] at c0
  have cs : ∀ t, t < nd → w.cell? ⟨g, o + (p + 1 + t), none⟩ = some (.int .u8 (48 + dgt m t)) := fun t ht => by
    have := hr (p + 1 + t) (by omega)
    rwa [H.dig t (by omega)] at this
  have cr := hr (p + 1 + nd) (by omega)
  have lf := hr (p + 1 + nd + 1) (by omega)
  rw [← hd, H.cr] at cr
  rw [← hd, H.lf] at lf
  rw [hd] at hle cr lf
  have h1 : 1 ≤ nd := by rw [← hd]; exact Lib.nDigits_pos m
  have hf : 1 < nd → dgt m 0 ≠ 0 := fun h => dgt_first m (by omega)
  have HM := Lib.hid hm
  generalize hz : l.length = z at hle hN ⊢
  clear hz hr H hm
  have g0 : (0 : Int) ≤ p := by omega
  have g1 : (p : Int) < z := by omega
  have g2 : ¬ (z : Int) ≤ p := by omega
  go_enter Tryd.func42, Tryd.ntmps42
  go_wp2
  go_loopw [1, 10] (fun i v wr => ∃ x k : Nat, x = p + 1 + k ∧ k ≤ nd ∧ i = .int .i64 x ∧ v = .int .i64 (upTo m k) ∧ wr = w) (fun i _ _ => z - (intOf i).toNat)
  case atStart => exact ⟨p + 1, 0, rfl, Nat.zero_le _, by go_num, by rw [upTo_zero]; rfl, rfl⟩
  case round =>
    obtain ⟨x, k, hx, hk, rfl, rfl, rfl⟩ := hrel
    have b0 : (0 : Int) ≤ x := by omega
    have b1 : (x : Int) < z := by omega
    by_cases hlt : k < nd
    · have c1 := cs k hlt
      rw [← hx] at c1
      have hst := upTo_succ m k (by rw [hd]; exact hlt)
      have hup := upTo_le m (k + 1)
      have hdl := dgt_lt m k
      have hM := HM.out
      obtain ⟨d, hdd⟩ : ∃ d, d = dgt m k := ⟨_, rfl⟩
      obtain ⟨v, hv⟩ : ∃ v, v = upTo m k := ⟨_, rfl⟩
      rw [← hdd] at c1 hdl hst
      rw [← hv] at hst ⊢
      have b2 : (48 : Int) ≤ 48 + d := by omega
      have b3 : 48 + (d : Int) ≤ 57 := by omega
      have b4 : ¬ (9 : Int) ≤ x - (p + 1) := by omega
      have b5 : (v : Int) * 10 + d ≤ 1048576 := by omega
      have Hst := Lib.hid hst
      have Hx := Lib.hid hx
      clear hst hup cs hM cr lf hdd hv c0 hf hx
      go_wp2
      go_roundw
      case rel => exact ⟨x + 1, k + 1, by have := Hx.out; omega, by omega, by go_num, by rw [Hst.out]; go_num, by trivial⟩
      case measure => simp [intOf]; omega
    · have hkn : k = nd := by omega
      subst hkn
      have cf := cs 0 (by omega)
      rw [Nat.add_zero] at cf
      rw [← hx] at cr lf
      have e1 : ¬ (48 : Int) ≤ 13 := by omega
      have e2 : ¬ (x : Int) = p + 1 := by omega
      have e3 : ¬ (z : Int) - x < 2 := by omega
      have e4 : (0 : Int) ≤ p + 1 := by omega
      have e5 : (p : Int) + 1 < z := by omega
      have e6 : (x : Int) + 1 < z := by omega
      have hu : (upTo m k : Int) = m := by rw [← hd, upTo_full]
      rw [hu]
      have Hx := Lib.hid hx
      obtain ⟨d, hdd⟩ : ∃ d, d = dgt m 0 := ⟨_, rfl⟩
      rw [← hdd] at cf hf
      by_cases h2 : 1 < k
      · have e7 : (1 : Int) < x - (p + 1) := by omega
        have e8 : ¬ (48 : Int) + d = 48 := by have := hf h2; omega
        generalize (48 : Int) + (d : Int) = y at cf e8
        have e9 : (y == 48) = false := by simpa using e8
        have e10 : ((x : Int) == p + 1) = false := by simpa using e2
        clear hx hf cs c0 hu hdd
        go_wp2
        go_ret3
        refine ⟨?_, rfl⟩
        have hx2 : (x : Int) + 2 = ((p + 1 + k + 2 : Nat) : Int) := by have := Hx.out; omega
        rw [hx2]
        rfl
      · have e7 : ¬ (1 : Int) < x - (p + 1) := by omega
        clear hx hf cs c0 hu hdd
        go_wp2
        go_ret3
        refine ⟨?_, rfl⟩
        have hx2 : (x : Int) + 2 = ((p + 1 + k + 2 : Nat) : Int) := by have := Hx.out; omega
        rw [hx2]
        rfl

end Go.Proofs.Qxb6616850aDoor
