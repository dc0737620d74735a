/-
  zzDecodesTo, at this dump, on a command's own bytes.
-/
import Derived.Test.Qxb6616850aDoorCmd
import Derived.Test.Qxb6616850aDoorRead
namespace Go.Proofs.Qxb6616850aDoor
open Go.RowKit

/-- At place P of l lies one argument on the wire; her text begins at Q. -/
structure BulkAt (l : List UInt8) (P Q : Nat) (a : ByteArray) : Prop where
  hdr : HdrAt l P 36 a.size
  q : Q = P + 1 + Lib.nDigits a.size + 2
  body : ∀ j (h : j < a.size), byteAt l (Q + j) = (a[j].toNat : Int)
  cr : byteAt l (Q + a.size) = 13
  lf : byteAt l (Q + a.size + 1) = 10
  le : Q + a.size + 2 ≤ l.length

theorem nat_itoa_len (m : Nat) : (Lib.itoa (m : Int)).length = Lib.nDigits m := by rw [Lib.itoa_nonneg, Lib.decDigits_length]

theorem BulkAt.of (pre rest : List UInt8) (a : ByteArray) (Q : Nat) (hQ : Q = pre.length + 1 + Lib.nDigits a.size + 2) : BulkAt (pre ++ (bulk a ++ rest)) pre.length Q a := by
  have hh : (hline 36 (a.size : Int)).length = 1 + Lib.nDigits a.size + 2 := by rw [hline_length, nat_itoa_len]; omega
  have hz : a.data.toList.length = a.size := (Lib.size_eq a).symm
  have key : ∀ t, byteAt (pre ++ (bulk a ++ rest)) (Q + t) = byteAt (a.data.toList ++ ([13, 10] ++ rest)) t := fun t => by
    have e : pre ++ (bulk a ++ rest) = (pre ++ hline 36 a.size) ++ (a.data.toList ++ ([13, 10] ++ rest)) := by simp [bulk]
    rw [e, show Q + t = (pre ++ hline 36 (a.size : Int)).length + t by rw [List.length_append, hh]; omega, byteAt_right]
  refine ⟨?_, hQ, fun j hj => ?_, ?_, ?_, ?_⟩
  · have := HdrAt.of pre (a.data.toList ++ [13, 10] ++ rest) 36 a.size
    have e : pre ++ (bulk a ++ rest) = pre ++ (hline 36 a.size ++ (a.data.toList ++ [13, 10] ++ rest)) := by simp [bulk]
    rw [e]
    exact this
  · rw [key, byteAt_left _ _ _ (by rw [hz]; exact hj)]
    have : j < a.data.toList.length := by rw [hz]; exact hj
    simp [byteAt, List.getD, List.getElem?_eq_getElem this]
    rfl
  · have := byteAt_right a.data.toList ([13, 10] ++ rest) 0
    rw [hz, Nat.add_zero] at this
    rw [key, this]
    rfl
  · have := byteAt_right a.data.toList ([13, 10] ++ rest) 1
    rw [hz] at this
    rw [show Q + a.size + 1 = Q + (a.size + 1) by omega, key, this]
    rfl
  · have : (bulk a).length = 1 + Lib.nDigits a.size + 2 + a.size + 2 := by rw [bulk_length, nat_itoa_len]; omega
    simp only [List.length_append, this]
    omega

/-- Where argument k begins. -/
def pos (L : List ByteArray) (k : Nat) : Nat := (hline 42 (L.length : Int)).length + (bulksTo L k).length

theorem pos_zero (L : List ByteArray) : pos L 0 = 1 + Lib.nDigits L.length + 2 := by
  unfold pos
  rw [bulksTo_zero, hline_length, nat_itoa_len]
  simp
  omega
theorem pos_full (L : List ByteArray) : pos L L.length = (cmd L).length := by unfold pos cmd; rw [List.length_append]
theorem pos_succ (L : List ByteArray) (k : Nat) (h : k < L.length) (a : ByteArray) (ha : L.getD k ByteArray.empty = a) : pos L (k + 1) = pos L k + 1 + Lib.nDigits a.size + 2 + a.size + 2 := by
  unfold pos
  rw [bulksTo_succ L k h, ha, List.length_append, bulk_length, nat_itoa_len]
  omega

theorem cmd_split (L : List ByteArray) (k : Nat) (h : k < L.length) : ∃ rest, cmd L = (hline 42 L.length ++ bulksTo L k) ++ (bulk (L.getD k ByteArray.empty) ++ rest) := by
  refine ⟨((L.drop (k + 1)).map bulk).flatten, ?_⟩
  unfold cmd
  have e : bulksTo L L.length = bulksTo L (k + 1) ++ ((L.drop (k + 1)).map bulk).flatten := by
    unfold bulksTo
    rw [List.take_of_length_le (Nat.le_refl _), ← List.flatten_append, ← List.map_append, List.take_append_drop]
  rw [e, bulksTo_succ L k h]
  simp

theorem bulkAt_cmd (L : List ByteArray) (k : Nat) (h : k < L.length) (a : ByteArray) (ha : L.getD k ByteArray.empty = a) (Q : Nat) (hQ : Q = pos L k + 1 + Lib.nDigits a.size + 2) : BulkAt (cmd L) (pos L k) Q a := by
  obtain ⟨rest, e⟩ := cmd_split L k h
  rw [e, ha]
  have hp : pos L k = (hline 42 (L.length : Int) ++ bulksTo L k).length := by rw [List.length_append]; rfl
  rw [hp] at hQ ⊢
  exact BulkAt.of _ rest a Q hQ

theorem hdrAt_cmd (L : List ByteArray) : HdrAt (cmd L) 0 42 L.length := HdrAt.of [] (bulksTo L L.length) 42 L.length

theorem readHeader2 (l : List UInt8) (g o c p n m Q : Nat) (kind : Int) (w : World) (hr : Rd l g o w) (hn : l.length = n) (hN : n ≤ 140737488355328) (h9 : Lib.nDigits m ≤ 9) (hm : m ≤ 1048576) (H : HdrAt l p kind m) (hQ : Q = p + 1 + Lib.nDigits m + 2) :
    Calls Tryd.prog 42 #[.slice (some ⟨g, o, none⟩) n c, .int .i64 p, .int .u8 kind] w fun e w' => e = .returned (.tuple #[.int .i64 m, .int .i64 (Q : Nat), .bool true]) ∧ w' = w := by
  subst hQ
  exact readHeader l g o c p n m _ kind w hr hn hN rfl h9 hm H

theorem nd9 (m : Nat) (h : m ≤ 1048576) : Lib.nDigits m ≤ 9 := by rw [← nat_itoa_len]; exact Nat.le_trans (itoa_nat_len m h) (by omega)

set_option maxHeartbeats 1600000 in
set_option maxRecDepth 100000 in
theorem decodes (Pt : Nat → Prop) (L : List ByteArray) (ao : Option Addr) (n c : Nat) (g o c1 z : Nat) (w : World) (hA : Args Pt L ao n c w) (hL : cost L ≤ 1048576) (hr : Rd (cmd L) g o w) (hz : (cmd L).length = z) :
    Calls Tryd.prog 30 #[.slice (some ⟨g, o, none⟩) z c1, .slice ao n c] w fun e w' => e = .returned (.bool true) ∧ Hush w w' := by
  have hlen := hA.len
  have hn16 : 16 * n ≤ 1048576 := by have := cost_len L; omega
  have hz2 : z ≤ 1048586 := by rw [← hz]; exact cmd_le L hL
  have Hlen := Lib.hid hlen
  have Hz := Lib.hid hz
  have h0 : HdrAt (cmd L) 0 42 n := by rw [← hlen]; exact hdrAt_cmd L
  have H0 := Lib.hid h0
  obtain ⟨P0, hP0⟩ : ∃ P0, P0 = pos L 0 := ⟨_, rfl⟩
  have hq : P0 = 0 + 1 + Lib.nDigits n + 2 := by rw [hP0, pos_zero, hlen]
  have Hq := Lib.hid hq
  have HP0 := Lib.hid hP0
  clear hlen hz h0 hP0 hq
  go_enter Tryd.func30, Tryd.ntmps30
  go_wp2_with (go_at_call 42; refine (readHeader2 (cmd L) g o c1 0 z n P0 42 _ hr Hz.out (by omega) (nd9 n (by omega)) (by omega) H0.out Hq.out).mono ?_; rintro e w1 ⟨rfl, hw1⟩; refine Hid.out ?_)
  refine Lib.hid ?_
  replace hw1 := hw1.symm
  subst hw1
  go_wp2
  go_loopw [6, 8] (fun p i wr => ∃ k x : Nat, k ≤ n ∧ i = .int .i64 k ∧ p = .int .i64 x ∧ Hid (x = pos L k) ∧ Hush w wr) (fun _ i _ => n - (intOf i).toNat)
  case atStart => exact ⟨0, P0, Nat.zero_le _, rfl, rfl, HP0, Hush.refl _⟩
  case round =>
    rename World => wo
    obtain ⟨k, x, hk, rfl, rfl, Hx, hq1⟩ := hrel
    by_cases hlt : k < n
    · obtain ⟨g2, o2, rfl, pg, hc⟩ := hA.at_ (by omega)
      have cA := (hq1.cell ⟨g2, o2 + k, none⟩).trans (hc k hlt)
      have hsz := size_le hL (k := k) (by rw [Hlen.out]; exact hlt)
      obtain ⟨a, ha⟩ : ∃ a, L.getD k ByteArray.empty = a := ⟨_, rfl⟩
      rw [ha] at cA hsz
      obtain ⟨Q, hQ⟩ : ∃ Q, Q = x + 1 + Lib.nDigits a.size + 2 := ⟨_, rfl⟩
      have hB := bulkAt_cmd L k (by rw [Hlen.out]; exact hlt) a ha Q (by rw [← Hx.out]; exact hQ)
      rw [← Hx.out] at hB
      have hle := hB.le
      rw [Hz.out] at hle
      have HB := Lib.hid hB
      have HQ := Lib.hid hQ
      have hps : Hid (Q + a.size + 2 = pos L (k + 1)) := by
        have := pos_succ L k (by rw [Hlen.out]; exact hlt) a ha
        have := Hx.out
        show _ = _
        omega
      clear hB hQ ha
      have b0 : (0 : Int) ≤ k := by omega
      have b1 : (k : Int) < n := by omega
      have b2 : ¬ (z : Int) - Q < a.size + 2 := by omega
      go_wp2_with (go_at_call 42; refine (readHeader2 (cmd L) g o c1 x z a.size Q 36 _ (hr.hush hq1) Hz.out (by omega) (nd9 _ hsz) hsz HB.out.hdr HQ.out).mono ?_; rintro e w1 ⟨rfl, hw1⟩; refine Hid.out ?_)
      refine Lib.hid ?_
      replace hw1 := hw1.symm
      subst hw1
      clear hc
      go_wp2
      go_loopw [12] (fun i wr => ∃ j : Nat, j ≤ a.size ∧ i = .int .i64 j ∧ Hush w wr ∧ wr.cell? ⟨g2, o2 + k, none⟩ = some (.string a)) (fun i _ => a.size - (intOf i).toNat)
      case atStart => exact ⟨0, Nat.zero_le _, rfl, hq1, cA⟩
      case round =>
        obtain ⟨j, hj, rfl, hq2, cA2⟩ := hrel
        by_cases hja : j < a.size
        · have c2 := (hr.hush hq2) (Q + j) (by rw [Hz.out]; omega)
          rw [HB.out.body j hja] at c2
          have d0 : (0 : Int) ≤ j := by omega
          have d1 : (j : Int) < a.size := by omega
          have d2 : (0 : Int) ≤ Q + j := by omega
          have d3 : (Q : Int) + j < z := by omega
          clear cA hr hA
          go_wp2
          go_quiet (fail)
          go_wp2
          go_roundw
          case rel => exact ⟨j + 1, by omega, by go_num, hq2.drewN _, cA2⟩
          case measure => simp [intOf]; omega
        · have hje : j = a.size := by omega
          subst hje
          have c2 := (hr.hush hq2) (Q + a.size) (by rw [Hz.out]; omega)
          rw [HB.out.cr] at c2
          have c3 := (hr.hush hq2) (Q + a.size + 1) (by rw [Hz.out]; omega)
          rw [HB.out.lf] at c3
          have d2 : (0 : Int) ≤ Q + a.size := by omega
          have d3 : (Q : Int) + a.size < z := by omega
          have d4 : (Q : Int) + a.size + 1 < z := by omega
          go_wp2
          go_roundw
          case rel => exact ⟨k + 1, Q + a.size + 2, by omega, by go_num, by go_num, hps, hq2⟩
          case measure => simp [intOf]; omega
    · have hkn : k = n := by omega
      subst hkn
      have hxz : x = z := by rw [Hx.out, ← Hz.out, ← pos_full, Hlen.out]
      subst hxz
      go_wp2
      go_ret
      exact ⟨rfl, hq1⟩

end Go.Proofs.Qxb6616850aDoor
