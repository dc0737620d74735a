/-
  zzIsLineOfDecimal, at this dump, on a line of a number that is not negative.
-/
import Derived.Test.Qxb6616850aDoorRead
namespace Go.Proofs.Qxb6616850aDoor
open Go.RowKit

set_option maxHeartbeats 1600000 in
set_option maxRecDepth 100000 in
theorem isLine (g o c m nd : Nat) (w : World) (hr : Rd (hline 42 (m : Int)) g o w) (hd : Lib.nDigits m = nd) (h9 : nd ≤ 9) (hm : m ≤ 1048576) (hc : nd + 3 ≤ c) (hcm : c ≤ 9223372036854775807) :
    Calls Tryd.prog 22 #[.slice (some ⟨g, o, none⟩) (nd + 3) c, .int .u8 42, .int .i64 m] w fun e w' => e = .returned (.bool true) ∧ w' = w := by
  have H : HdrAt (hline 42 (m : Int)) 0 42 m := by
    have := HdrAt.of [] [] 42 m
    simpa using this
  have hl : (hline 42 (m : Int)).length = nd + 3 := by rw [hline_length, Lib.itoa_nonneg, Lib.decDigits_length, hd]
  have c0 := hr 0 (by omega)
  rw [H.k0, Nat.add_zero] at c0
  have cs : ∀ t, t < nd → w.cell? ⟨g, o + 1 + t, none⟩ = some (.int .u8 (48 + dgt m t)) := fun t ht => by
    have := hr (0 + 1 + t) (by omega)
    rw [H.dig t (by omega)] at this
    rw [← this]
    congr 2
    omega
  have cr := hr (nd + 1) (by omega)
  have lf := hr (nd + 2) (by omega)
  have e1 := H.cr
  have e2 := H.lf
  rw [hd, show 0 + 1 + nd = nd + 1 by omega] at e1
  rw [hd, show 0 + 1 + nd + 1 = nd + 2 by omega] at e2
  rw [e1] at cr
  rw [e2] at lf
  have h1 : 1 ≤ nd := by rw [← hd]; exact Lib.nDigits_pos m
  have hf : 1 < nd → dgt m 0 ≠ 0 := fun h => dgt_first m (by omega)
  have cf := cs 0 (by omega)
  rw [Nat.add_zero] at cf
  have hdl := dgt_lt m 0
  obtain ⟨d, hdd⟩ : ∃ d, d = dgt m 0 := ⟨_, rfl⟩
  rw [← hdd] at cf hf hdl
  have e8 : 1 < nd → ¬ (48 : Int) + d = 48 := fun h => by have := hf h; omega
  have e9 : ¬ (48 : Int) + d = 45 := by omega
  generalize (48 : Int) + (d : Int) = y at cf e8 e9
  have e9' : (y == 45) = false := by simpa using e9
  have HM := Lib.hid hm
  clear hl H hr e1 e2 hf hdl hdd hm
  have f1 : decide ((nd : Int) + 3 < 4) = false := by simp; omega
  have f2 : ((nd : Int) == 0) = false := by simp; omega
  have f3 : ¬ (19 : Int) < nd := by omega
  have f4 : (0 : Int) < nd := by omega
  by_cases h2 : 1 < nd
  · have e10 : (y == 48) = false := by simpa using e8 h2
    have e11 : (1 : Int) < nd := by omega
    clear e8
    go_enter Tryd.func22, Tryd.ntmps22
    go_wp2
    go_loopw [9, 10] (fun v i wr => ∃ k : Nat, k ≤ nd ∧ i = .int .i64 k ∧ v = .int .u64 (upTo m k) ∧ wr = w) (fun _ i _ => nd - (intOf i).toNat)
    case atStart => exact ⟨0, Nat.zero_le _, rfl, by rw [upTo_zero]; rfl, rfl⟩
    case round =>
      obtain ⟨k, hk, rfl, rfl, hwr⟩ := hrel
      replace hwr := hwr.symm
      subst hwr
      by_cases hlt : k < nd
      · have c1 := cs k hlt
        have hst := upTo_succ m k (by rw [hd]; exact hlt)
        have hup := upTo_le m (k + 1)
        have hdl := dgt_lt m k
        have hM := HM.out
        obtain ⟨d, hdd⟩ : ∃ d, d = dgt m k := ⟨_, rfl⟩
        obtain ⟨v, hv⟩ : ∃ v, v = upTo m k := ⟨_, rfl⟩
        rw [← hdd] at c1 hdl hst
        rw [← hv] at hst ⊢
        have b0 : (0 : Int) ≤ k := by omega
        have b1 : (k : Int) < nd := by omega
        have b2 : ¬ 48 + (d : Int) < 48 := by omega
        have b3 : ¬ 57 < 48 + (d : Int) := by omega
        have b5 : (v : Int) * 10 + d ≤ 1048576 := by omega
        have Hst := Lib.hid hst
        clear hst hup cs hM cr lf hdd hv c0 cf
        go_wp2
        go_roundw
        case rel => exact ⟨k + 1, by omega, by go_num, by rw [Hst.out]; go_num, by trivial⟩
        case measure => simp [intOf]; omega
      · have hkn : k = nd := by omega
        subst hkn
        have hu : (upTo m k : Int) = m := by rw [← hd, upTo_full]
        rw [hu]
        have hM := HM.out
        have b0 : (0 : Int) ≤ m := by omega
        clear hu cs
        go_wp2
        go_ret
        exact ⟨by go_num, by trivial⟩
  · have e11 : ¬ (1 : Int) < nd := by omega
    clear e8
    go_enter Tryd.func22, Tryd.ntmps22
    go_wp2
    go_loopw [9, 10] (fun v i wr => ∃ k : Nat, k ≤ nd ∧ i = .int .i64 k ∧ v = .int .u64 (upTo m k) ∧ wr = w) (fun _ i _ => nd - (intOf i).toNat)
    case atStart => exact ⟨0, Nat.zero_le _, rfl, by rw [upTo_zero]; rfl, rfl⟩
    case round =>
      obtain ⟨k, hk, rfl, rfl, hwr⟩ := hrel
      replace hwr := hwr.symm
      subst hwr
      by_cases hlt : k < nd
      · have c1 := cs k hlt
        have hst := upTo_succ m k (by rw [hd]; exact hlt)
        have hup := upTo_le m (k + 1)
        have hdl := dgt_lt m k
        have hM := HM.out
        obtain ⟨d, hdd⟩ : ∃ d, d = dgt m k := ⟨_, rfl⟩
        obtain ⟨v, hv⟩ : ∃ v, v = upTo m k := ⟨_, rfl⟩
        rw [← hdd] at c1 hdl hst
        rw [← hv] at hst ⊢
        have b0 : (0 : Int) ≤ k := by omega
        have b1 : (k : Int) < nd := by omega
        have b2 : ¬ 48 + (d : Int) < 48 := by omega
        have b3 : ¬ 57 < 48 + (d : Int) := by omega
        have b5 : (v : Int) * 10 + d ≤ 1048576 := by omega
        have Hst := Lib.hid hst
        clear hst hup cs hM cr lf hdd hv c0 cf
        go_wp2
        go_roundw
        case rel => exact ⟨k + 1, by omega, by go_num, by rw [Hst.out]; go_num, by trivial⟩
        case measure => simp [intOf]; omega
      · have hkn : k = nd := by omega
        subst hkn
        have hu : (upTo m k : Int) = m := by rw [← hd, upTo_full]
        rw [hu]
        have hM := HM.out
        have b0 : (0 : Int) ≤ m := by omega
        clear hu cs
        go_wp2
        go_ret
        exact ⟨by go_num, by trivial⟩

end Go.Proofs.Qxb6616850aDoor
