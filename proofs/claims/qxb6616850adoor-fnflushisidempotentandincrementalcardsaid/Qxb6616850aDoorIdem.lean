/-
  FnFlushIsIdempotentAndIncremental, walked.
-/
import Derived.Test.Qxb6616850aDoorOut
namespace Go.Proofs.Qxb6616850aDoor
open Go.RowKit

set_option maxHeartbeats 400000 in
theorem bytes33_yes (a b : ByteArray) (w : World) (h : a.size + b.size ≤ 1048576) : Calls Tryd.prog 33 #[.string a, .string b] w fun e w' => e = .returned (.bool true) ∧ w' = w := by
  go_enter Tryd.func33, Tryd.ntmps33
  go_wp2
  go_ret
  exact ⟨rfl, rfl⟩

set_option maxHeartbeats 400000 in
theorem bytes33_no (a b : ByteArray) (w : World) (ha : a.size ≤ maxLen) (hb : b.size ≤ maxLen) (h : ¬ a.size + b.size ≤ 1048576) : Calls Tryd.prog 33 #[.string a, .string b] w fun e w' => e = .returned (.bool false) ∧ w' = w := by
  unfold maxLen at ha hb
  by_cases h1 : a.size ≤ 1048576
  · by_cases h2 : b.size ≤ 1048576
    · go_enter Tryd.func33, Tryd.ntmps33
      go_wp2
      go_ret
      exact ⟨rfl, rfl⟩
    · go_enter Tryd.func33, Tryd.ntmps33
      go_wp2
      go_ret
      exact ⟨rfl, rfl⟩
  · go_enter Tryd.func33, Tryd.ntmps33
    go_wp2
    go_ret
    exact ⟨rfl, rfl⟩

set_option maxHeartbeats 400000 in
set_option maxRecDepth 100000 in
theorem idem_no (a b : ByteArray) (w : World) (ha : a.size ≤ maxLen) (hb : b.size ≤ maxLen) (h : ¬ a.size + b.size ≤ 1048576) : Calls Tryd.prog 9 #[.string a, .string b] w fun e w' => e = .returned (.bool true) ∧ Below w.heap.size w w' := by
  have H := Lib.hid (bytes33_no a b w ha hb h)
  go_enter Tryd.func9, Tryd.ntmps9
  go_wp2_with (go_at_call 33; refine H.out.mono ?_; rintro e w1 ⟨rfl, rfl⟩)
  go_ret
  exact ⟨rfl, Below.refl _ _⟩

set_option maxHeartbeats 1600000 in
set_option maxRecDepth 100000 in
theorem idem_yes (a b : ByteArray) (w : World) (h : a.size + b.size ≤ 1048576) : Calls Tryd.prog 9 #[.string a, .string b] w fun e w' => e = .returned (.bool true) ∧ Below w.heap.size w w' := by
  have H := Lib.hid (bytes33_yes a b w h)
  have na := reply_length a
  have nb := reply_length b
  have Na := Lib.hid na
  have Nb := Lib.hid nb
  have ha : decide ((1048576 : Int) < a.size) = false := by simp; omega
  have hb : decide ((1048576 : Int) < b.size) = false := by simp; omega
  clear na nb
  obtain ⟨B0, hB0⟩ : ∃ B0, B0 = w.heap.size := ⟨_, rfl⟩
  have HB0 := Lib.hid hB0
  clear hB0
  go_enter Tryd.func9, Tryd.ntmps9
  go_wp2_with (go_at_call 33; refine H.out.mono ?_; rintro e w1 ⟨rfl, rfl⟩; refine Hid.out ?_)
  refine Lib.hid ?_
  clear H
  go_wp2_with (go_at_call 12; refine (newSink _).mono ?_; rintro e w2 ⟨rfl, h2⟩; refine Hid.out ?_)
  refine Lib.hid ?_
  rw [← HB0.out]
  go_wp2_with (go_at_call 13; refine (newWriter B0 _).mono ?_; rintro e w3 ⟨rfl, M, hM, h3⟩; refine Hid.out ?_)
  refine Lib.hid ?_
  obtain ⟨r3, k3⟩ := rw_new HB0.out hM h2.out h3.out (fun k => k < B0) (fun k hk => by rw [← HB0.out]; exact hk)
  have z2 : w2.heap.size + 2 = B0 + 3 := by rw [h2.out, HB0.out]; simp
  rw [z2]
  clear h2 h3 hM z2 M
  go_wp2_with (go_at_call 14; refine (simpleString (fun k => k < B0) B0 _ _ _ _ [] [] a _ r3 (by simp; omega)).mono ?_; rintro e w4 ⟨rfl, o4, p4, r4, l4, z4, k4⟩; refine Hid.out ?_)
  refine Lib.hid ?_
  have e4 : o4 ++ p4 = reply a := by simpa [reply] using l4
  have E4 := Lib.hid e4
  have n4 : Hid (o4.length + p4.length = a.size + 3) := by have := congrArg List.length e4; rw [List.length_append, reply_length] at this; exact this
  clear l4 z4 e4 r3
  go_wp2_with (go_at_call 15; refine (rflush _ _ _ _ _ _ o4 p4 _ r4 (by have := n4.out; omega)).mono ?_; rintro e w5 ⟨rfl, r5, k5⟩; refine Hid.out ?_)
  refine Lib.hid ?_
  rw [E4.out] at r5
  clear E4 n4 r4
  go_wp2_with (go_at_call 17; refine (sink17 _ _ _ _ _ _ _ _ _ r5).mono ?_; rintro e w6 ⟨v6, rfl, s6, r6, k6⟩; refine Hid.out ?_)
  refine Lib.hid ?_
  go_wp2_with (go_at_call 16; refine (copy16 (reply a) v6 _ s6 (a.size + 3) Na.out (by omega)).mono ?_; rintro e w7 ⟨rfl, c7⟩; refine Hid.out ?_)
  refine Lib.hid ?_
  have r7 := c7.rw r6
  have k7 := c7.kept (Pt := fun k => k < B0) r6.inn
  have K7 := ((((k3.trans k4).trans k5).trans k6).trans k7)
  have d7 := c7.rd
  clear k3 k4 k5 k6 k7 r5 r6 s6 c7
  generalize w6.heap.size = g1 at *
  go_wp2_with (go_at_call 15; refine (rflush _ _ _ _ _ _ (reply a) [] _ r7 (by rw [Na.out]; simp; omega)).mono ?_; rintro e w8 ⟨rfl, r8, k8⟩; refine Hid.out ?_)
  refine Lib.hid ?_
  rw [List.append_nil] at r8
  go_wp2_with (go_at_call 17; refine (sink17 _ _ _ _ _ _ _ _ _ r8).mono ?_; rintro e w9 ⟨v9, rfl, s9, r9, k9⟩; refine Hid.out ?_)
  refine Lib.hid ?_
  go_wp2_with (go_at_call 16; refine (copy16 (reply a) v9 _ s9 (a.size + 3) Na.out (by omega)).mono ?_; rintro e w10 ⟨rfl, c10⟩; refine Hid.out ?_)
  refine Lib.hid ?_
  have r10 := c10.rw r9
  have k10 := c10.kept (Pt := fun k => k < B0 ∨ k = g1) r9.inn
  have K10 := (k8.trans k9).trans k10
  have L10 := K7.trans (K10.mono fun k hk => .inl hk)
  have d7' := d7.kept (K10.block g1 (.inr rfl))
  have d10 := c10.rd
  clear k8 k9 k10 r7 r8 r9 s9 c10 d7 K7 K10
  generalize w9.heap.size = g2 at *
  go_wp2_with (go_at_call 14; refine (simpleString _ _ _ _ _ _ (reply a) [] b _ r10 (by rw [Na.out]; simp; omega)).mono ?_; rintro e w11 ⟨rfl, o11, p11, r11, l11, z11, k11⟩; refine Hid.out ?_)
  refine Lib.hid ?_
  have e11 : o11 ++ p11 = reply a ++ reply b := by simpa [reply] using l11
  have E11 := Lib.hid e11
  have n11 : Hid (o11.length + p11.length = a.size + 3 + (b.size + 3)) := by have := congrArg List.length e11; rw [List.length_append, List.length_append, reply_length, reply_length] at this; exact this
  clear l11 z11 e11
  go_wp2_with (go_at_call 15; refine (rflush _ _ _ _ _ _ o11 p11 _ r11 (by have := n11.out; omega)).mono ?_; rintro e w12 ⟨rfl, r12, k12⟩; refine Hid.out ?_)
  refine Lib.hid ?_
  rw [E11.out] at r12
  go_wp2_with (go_at_call 17; refine (sink17 _ _ _ _ _ _ _ _ _ r12).mono ?_; rintro e w13 ⟨v13, rfl, s13, r13, k13⟩; refine Hid.out ?_)
  refine Lib.hid ?_
  go_wp2_with (go_at_call 16; refine (copy16 (reply a ++ reply b) v13 _ s13 (a.size + 3 + b.size + 3) (by rw [List.length_append, Na.out, Nb.out]; omega) (by omega)).mono ?_; rintro e w14 ⟨rfl, c14⟩; refine Hid.out ?_)
  refine Lib.hid ?_
  have k14 := c14.kept (Pt := fun k => (k < B0 ∨ k = g1) ∨ k = g2) r13.inn
  have K14 := ((k11.trans k12).trans k13).trans k14
  have L14 := (L10.trans (K14.mono fun k hk => .inl (.inl hk))).toBelow (B := B0) (fun k hk => hk)
  have d7 := d7'.kept (K14.block g1 (.inl (.inr rfl)))
  have d10' := d10.kept (K14.block g2 (.inr rfl))
  have d14 := c14.rd
  clear k11 k12 k13 k14 r10 r11 r12 r13 s13 c14 d7' d10 K14 L10 E11 n11 o11 p11
  generalize w13.heap.size = g3 at *
  have m0 : w14.cell? ⟨g1, 0, none⟩ = some (.int .u8 43) := by have := d7 0 (by rw [Na.out]; omega); rwa [reply_0] at this
  have m1 : w14.cell? ⟨g1, a.size + 1, none⟩ = some (.int .u8 13) := by have := d7 (a.size + 1) (by rw [Na.out]; omega); rwa [reply_13, Nat.zero_add] at this
  have m2 : w14.cell? ⟨g1, a.size + 2, none⟩ = some (.int .u8 10) := by have := d7 (a.size + 2) (by rw [Na.out]; omega); rwa [reply_10, Nat.zero_add] at this
  go_wp2
  go_loopw [13] (fun i wr => ∃ k : Nat, k ≤ a.size ∧ i = .int .i64 k ∧ Hush w14 wr) (fun i _ => a.size - (intOf i).toNat)
  case atStart => exact ⟨0, Nat.zero_le _, rfl, Hush.refl _⟩
  case round =>
    obtain ⟨k, hk, rfl, hq⟩ := hrel
    by_cases hlt : k < a.size
    · have d1 : wr.cell? ⟨g1, k + 1, none⟩ = some (.int .u8 (a[k].toNat : Int)) := by have := (d7.hush hq) (k + 1) (by rw [Na.out]; omega); rwa [reply_mid a k hlt, Nat.zero_add] at this
      have b1 : (k : Int) < a.size := by omega
      have b0 : (0 : Int) ≤ k := by omega
      clear m0 m1 m2
      go_wp2
      go_quiet (fail)
      go_wp2
      go_roundw
      case rel => exact ⟨k + 1, by omega, by go_num, hq.drewN _⟩
      case measure => simp [intOf]; omega
    · clear m0 m1 m2
      go_wp2_with fail
      refine (eqB (reply a) (a.size + 3) Na.out g2 0 _ g1 0 _ _ (d10'.hush hq) (d7.hush hq) (by omega)).mono ?_
      rintro e w15 ⟨rfl, q15⟩
      have q := hq.trans q15
      clear hq q15
      go_wp2_with fail
      refine (hasP (reply a) (reply b) (a.size + 3 + b.size + 3) (a.size + 3) (by rw [List.length_append, Na.out, Nb.out]; omega) Na.out g3 0 _ g1 0 _ _ (d14.hush q) (d7.hush q) (by omega)).mono ?_
      rintro e w16 ⟨rfl, q16⟩
      have q2 := q.trans q16
      clear q q16
      have e14 := d14.hush q2
      have nn : (reply a ++ reply b).length = a.size + 3 + b.size + 3 := by rw [List.length_append, Na.out, Nb.out]; omega
      have Nn := Lib.hid nn
      clear nn
      have m0 : w16.cell? ⟨g3, a.size + 3, none⟩ = some (.int .u8 43) := by
        have := e14 (a.size + 3) (by rw [Nn.out]; omega)
        rw [Nat.zero_add, show a.size + 3 = (reply a).length + 0 by rw [Na.out], byteAt_right, reply_0, Nat.add_zero, Na.out] at this
        exact this
      have m1 : w16.cell? ⟨g3, a.size + 3 + b.size + 1, none⟩ = some (.int .u8 13) := by
        have := e14 (a.size + 3 + b.size + 1) (by rw [Nn.out]; omega)
        rw [Nat.zero_add, show a.size + 3 + b.size + 1 = (reply a).length + (b.size + 1) by rw [Na.out]; omega, byteAt_right, reply_13, Na.out, ← Nat.add_assoc] at this
        exact this
      have m2 : w16.cell? ⟨g3, a.size + 3 + b.size + 2, none⟩ = some (.int .u8 10) := by
        have := e14 (a.size + 3 + b.size + 2) (by rw [Nn.out]; omega)
        rw [Nat.zero_add, show a.size + 3 + b.size + 2 = (reply a).length + (b.size + 2) by rw [Na.out]; omega, byteAt_right, reply_10, Na.out, ← Nat.add_assoc] at this
        exact this
      go_wp2
      clear m0 m1 m2
      go_loopw [15] (fun i wr => ∃ k : Nat, k ≤ b.size ∧ i = .int .i64 k ∧ Hush w14 wr) (fun i _ => b.size - (intOf i).toNat)
      case atStart => exact ⟨0, Nat.zero_le _, rfl, q2⟩
      case round =>
        obtain ⟨j, hj, rfl, hq⟩ := hrel
        by_cases hlj : j < b.size
        · have d1 : wr.cell? ⟨g3, a.size + 3 + 1 + j, none⟩ = some (.int .u8 (b[j].toNat : Int)) := by
            have := (d14.hush hq) (a.size + 3 + 1 + j) (by rw [Nn.out]; omega)
            rw [Nat.zero_add, show a.size + 3 + 1 + j = (reply a).length + (j + 1) by rw [Na.out]; omega, byteAt_right, reply_mid b j hlj, Na.out, show a.size + 3 + (j + 1) = a.size + 3 + 1 + j by omega] at this
            exact this
          have b1 : (j : Int) < b.size := by omega
          have b0 : (0 : Int) ≤ j := by omega
          go_wp2
          go_quiet (fail)
          go_wp2
          go_roundw
          case rel => exact ⟨j + 1, by omega, by go_num, hq.drewN _⟩
          case measure => simp [intOf]; omega
        · go_wp2
          go_ret
          refine ⟨rfl, ?_⟩
          have := HB0.out
          rw [← this]
          exact L14.trans (hq.below _)

/-- The law, for every two strings. -/
theorem idem_all (a b : ByteArray) (w : World) (ha : a.size ≤ maxLen) (hb : b.size ≤ maxLen) : Calls Tryd.prog 9 #[.string a, .string b] w fun e w' => e = .returned (.bool true) ∧ Below w.heap.size w w' := by
  by_cases h : a.size + b.size ≤ 1048576
  · exact idem_yes a b w h
  · exact idem_no a b w ha hb h

end Go.Proofs.Qxb6616850aDoor
