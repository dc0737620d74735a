/-
  zzOutSimple; FnSimpleStringRepliesConcatenate, walked.
-/
import Derived.Test.Qxb6616850aDoorOut
namespace Go.Proofs.Qxb6616850aDoor
open Go.RowKit

/-- What a 'zzOut..' leaves: the bytes in a new row (block g), every old block as it was. -/
structure Outs (out : List UInt8) (g : Nat) (w w' : World) : Prop where
  lo : w.heap.size ≤ g
  hi : g < w'.heap.size
  rd : Rd out g 0 w'
  below : Below w.heap.size w w'

theorem Outs.of {out : List UInt8} {w w0 w1 : World} (hb : Below w.heap.size w w0) (c : Copied out w0 w1) : Outs out w0.heap.size w w1 :=
  ⟨hb.size, by have := c.2.2; omega, c.rd, hb.trans (c.2.1.mono hb.size)⟩

set_option maxHeartbeats 1600000 in
set_option maxRecDepth 100000 in
theorem outSimple (t : ByteArray) (w : World) (ht : t.size ≤ 1048576) :
    Calls Tryd.prog 11 #[.string t] w fun e w' => ∃ g, e = .returned (.tuple #[.slice (some ⟨g, 0, none⟩) (t.size + 3) (t.size + 3), .bool true]) ∧ Outs (reply t) g w w' := by
  have Nt := Lib.hid (reply_length t)
  obtain ⟨B0, hB0⟩ : ∃ B0, B0 = w.heap.size := ⟨_, rfl⟩
  have HB0 := Lib.hid hB0
  clear hB0
  go_enter Tryd.func11, Tryd.ntmps11
  go_wp2_with (go_at_call 12; refine (newSink _).mono ?_; rintro e w2 ⟨rfl, h2⟩; refine Hid.out ?_)
  refine Lib.hid ?_
  rw [← HB0.out]
  go_wp2_with (go_at_call 13; refine (newWriter B0 _).mono ?_; rintro e w3 ⟨rfl, M, hM, h3⟩; refine Hid.out ?_)
  refine Lib.hid ?_
  obtain ⟨r3, k3⟩ := rw_new HB0.out hM h2.out h3.out (fun k => k < B0) (fun k hk => by rw [← HB0.out]; exact hk)
  have z2 : w2.heap.size + 2 = B0 + 3 := by rw [h2.out, HB0.out]; simp
  rw [z2]
  clear h2 h3 hM z2 M
  go_wp2_with (go_at_call 14; refine (simpleString (fun k => k < B0) B0 _ _ _ _ [] [] t _ r3 (by simp; omega)).mono ?_; rintro e w4 ⟨rfl, o4, p4, r4, l4, z4, k4⟩; refine Hid.out ?_)
  refine Lib.hid ?_
  have e4 : o4 ++ p4 = reply t := by simpa [reply] using l4
  have E4 := Lib.hid e4
  have n4 : Hid (o4.length + p4.length = t.size + 3) := by have := congrArg List.length e4; rw [List.length_append, reply_length] at this; exact this
  clear l4 z4 e4 r3
  go_wp2_with (go_at_call 15; refine (rflush _ _ _ _ _ _ o4 p4 _ r4 (by have := n4.out; omega)).mono ?_; rintro e w5 ⟨rfl, r5, k5⟩; refine Hid.out ?_)
  refine Lib.hid ?_
  rw [E4.out] at r5
  clear E4 n4 r4
  have K5 := (k3.trans k4).trans k5
  clear k3 k4 k5
  go_wp2_with fail
  go_region_held3 (fun _ => True) (trivial) (first
    | (go_at_call 17; refine (sink17 _ _ _ _ _ _ _ _ _ (r5.drewN 1)).mono ?_; rintro e w6 ⟨v6, rfl, s6, r6, k6⟩)
    | (go_at_call 16; refine (copy16 (reply t) v6 _ s6 (t.size + 3) Nt.out (by omega)).mono ?_; rintro e w7 ⟨rfl, c7⟩))
  go_wp2
  go_ret2
  have hb : Below w.heap.size w w6 := (K5.trans k6.offDrewN).toBelow fun k hk => by rw [HB0.out]; exact hk
  exact ⟨w6.heap.size, rfl, Outs.of hb c7⟩

theorem eqB2 (l : List UInt8) (n m : Nat) (hn : l.length = n) (hm : l.length = m) (g1 o1 c1 g2 o2 c2 : Nat) (w : World) (h1 : Rd l g1 o1 w) (h2 : Rd l g2 o2 w) (hl : n ≤ 140737488355328) :
    Calls Tryd.prog 19 #[.slice (some ⟨g1, o1, none⟩) n c1, .slice (some ⟨g2, o2, none⟩) m c2] w fun e w' => e = .returned (.bool true) ∧ Hush w w' := by
  subst hn
  subst hm
  exact eqBytes l g1 o1 c1 g2 o2 c2 w h1 h2 hl

set_option maxHeartbeats 400000 in
theorem bytes10_yes (a b : ByteArray) (w : World) (h : a.size + b.size ≤ 1048576) : Calls Tryd.prog 10 #[.string a, .string b] w fun e w' => e = .returned (.bool true) ∧ w' = w := by
  go_enter Tryd.func10, Tryd.ntmps10
  go_wp2
  go_ret
  exact ⟨rfl, rfl⟩

set_option maxHeartbeats 400000 in
theorem bytes10_no (a b : ByteArray) (w : World) (ha : a.size ≤ maxLen) (hb : b.size ≤ maxLen) (h : ¬ a.size + b.size ≤ 1048576) : Calls Tryd.prog 10 #[.string a, .string b] w fun e w' => e = .returned (.bool false) ∧ w' = w := by
  unfold maxLen at ha hb
  by_cases h1 : a.size ≤ 1048576
  · by_cases h2 : b.size ≤ 1048576
    · go_enter Tryd.func10, Tryd.ntmps10
      go_wp2
      go_ret
      exact ⟨rfl, rfl⟩
    · go_enter Tryd.func10, Tryd.ntmps10
      go_wp2
      go_ret
      exact ⟨rfl, rfl⟩
  · go_enter Tryd.func10, Tryd.ntmps10
    go_wp2
    go_ret
    exact ⟨rfl, rfl⟩

set_option maxHeartbeats 400000 in
set_option maxRecDepth 100000 in
theorem cat_no (a b : ByteArray) (w : World) (ha : a.size ≤ maxLen) (hb : b.size ≤ maxLen) (h : ¬ a.size + b.size ≤ 1048576) : Calls Tryd.prog 3 #[.string a, .string b] w fun e w' => e = .returned (.bool true) ∧ Below w.heap.size w w' := by
  have H := Lib.hid (bytes10_no a b w ha hb h)
  go_enter Tryd.func3, Tryd.ntmps3
  go_wp2_with (go_at_call 10; refine H.out.mono ?_; rintro e w1 ⟨rfl, rfl⟩)
  go_ret
  exact ⟨rfl, Below.refl _ _⟩

set_option maxHeartbeats 1600000 in
set_option maxRecDepth 100000 in
theorem cat_yes (a b : ByteArray) (w : World) (h : a.size + b.size ≤ 1048576) : Calls Tryd.prog 3 #[.string a, .string b] w fun e w' => e = .returned (.bool true) ∧ Below w.heap.size w w' := by
  have H := Lib.hid (bytes10_yes a b w h)
  have Na := Lib.hid (reply_length a)
  have Nb := Lib.hid (reply_length b)
  have ha : decide ((1048576 : Int) < a.size) = false := by simp; omega
  have hb : decide ((1048576 : Int) < b.size) = false := by simp; omega
  go_enter Tryd.func3, Tryd.ntmps3
  go_wp2_with (go_at_call 10; refine H.out.mono ?_; rintro e w1 ⟨rfl, hw1⟩; refine Hid.out ?_)
  refine Lib.hid ?_
  clear H hw1
  go_wp2_with (go_at_call 11; refine (outSimple a _ (by omega)).mono ?_; rintro e w1 ⟨g1, rfl, O1⟩; refine Hid.out ?_)
  refine Lib.hid ?_
  go_wp2_with (go_at_call 11; refine (outSimple b _ (by omega)).mono ?_; rintro e w2 ⟨g2, rfl, O2⟩; refine Hid.out ?_)
  refine Lib.hid ?_
  have r1 := O1.rd.kept (O2.below.block g1 O1.hi)
  have hi1 := Nat.lt_of_lt_of_le O1.hi O2.below.size
  have b2 := O1.below.trans (O2.below.mono O1.below.size)
  have r2 := O2.rd
  have hi2 := O2.hi
  clear O1 O2
  obtain ⟨B0, hB0⟩ : ∃ B0, B0 = w2.heap.size := ⟨_, rfl⟩
  have HB0 := Lib.hid hB0
  rw [← hB0] at hi1 hi2
  clear hB0
  go_wp2_with (go_at_call 12; refine (newSink _).mono ?_; rintro e w3 ⟨rfl, h3⟩; refine Hid.out ?_)
  refine Lib.hid ?_
  rw [← HB0.out]
  go_wp2_with (go_at_call 13; refine (newWriter B0 _).mono ?_; rintro e w4 ⟨rfl, M, hM, h4⟩; refine Hid.out ?_)
  refine Lib.hid ?_
  obtain ⟨r4, k4⟩ := rw_new HB0.out hM h3.out h4.out (fun k => k < B0) (fun k hk => by rw [← HB0.out]; exact hk)
  have z2 : w3.heap.size + 2 = B0 + 3 := by rw [h3.out, HB0.out]; simp
  rw [z2]
  clear h3 h4 hM z2 M
  go_wp2_with (go_at_call 14; refine (simpleString (fun k => k < B0) B0 _ _ _ _ [] [] a _ r4 (by simp; omega)).mono ?_; rintro e w5 ⟨rfl, o5, p5, r5, l5, z5, k5⟩; refine Hid.out ?_)
  refine Lib.hid ?_
  have e5 : o5 ++ p5 = reply a := by simpa [reply] using l5
  have E5 := Lib.hid e5
  have n5 : Hid (o5.length + p5.length = a.size + 3) := by have := congrArg List.length e5; rw [List.length_append, reply_length] at this; exact this
  clear l5 z5 e5 r4
  go_wp2_with (go_at_call 14; refine (simpleString (fun k => k < B0) B0 _ _ _ _ o5 p5 b _ r5 (by have := n5.out; omega)).mono ?_; rintro e w6 ⟨rfl, o6, p6, r6, l6, z6, k6⟩; refine Hid.out ?_)
  refine Lib.hid ?_
  have e6 : o6 ++ p6 = reply a ++ reply b := by rw [l6, E5.out]; rfl
  have E6 := Lib.hid e6
  have n6 : Hid (o6.length + p6.length = a.size + b.size + 6) := by have := congrArg List.length e6; rw [List.length_append, List.length_append, reply_length, reply_length] at this; show _ = _; omega
  clear l6 z6 e6 r5 E5 n5
  go_wp2_with (go_at_call 15; refine (rflush _ _ _ _ _ _ o6 p6 _ r6 (by have := n6.out; omega)).mono ?_; rintro e w7 ⟨rfl, r7, k7⟩; refine Hid.out ?_)
  refine Lib.hid ?_
  rw [E6.out] at r7
  clear E6 n6 r6
  go_wp2_with (go_at_call 17; refine (sink17 _ _ _ _ _ _ _ _ _ r7).mono ?_; rintro e w8 ⟨v8, rfl, s8, r8, k8⟩; refine Hid.out ?_)
  refine Lib.hid ?_
  have Nn : Hid ((reply a ++ reply b).length = a.size + b.size + 6) := by show _ = _; rw [List.length_append, Na.out, Nb.out]; omega
  go_wp2_with (go_at_call 16; refine (copy16 (reply a ++ reply b) v8 _ s8 (a.size + b.size + 6) Nn.out (by omega)).mono ?_; rintro e w9 ⟨rfl, c9⟩; refine Hid.out ?_)
  refine Lib.hid ?_
  have k9 := c9.kept (Pt := fun k => k < B0) r8.inn
  have K9 := ((((k4.trans k5).trans k6).trans k7).trans k8).trans k9
  have d1 := r1.kept (K9.block g1 hi1)
  have d2 := r2.kept (K9.block g2 hi2)
  have d3 := c9.rd
  have L9 : Below w.heap.size w w9 := b2.trans ((K9.toBelow (B := B0) fun k hk => hk).mono (by rw [HB0.out]; exact b2.size))
  clear k4 k5 k6 k7 k8 k9 K9 r7 r8 s8 c9 r1 r2 b2
  generalize w8.heap.size = g3 at *
  have m0 : w9.cell? ⟨g3, 0, none⟩ = some (.int .u8 43) := by have := d3 0 (by rw [Nn.out]; omega); exact this
  have m1 : w9.cell? ⟨g3, a.size + 3, none⟩ = some (.int .u8 43) := by
    have := d3 (a.size + 3) (by rw [Nn.out]; omega)
    rw [Nat.zero_add, show a.size + 3 = (reply a).length + 0 by rw [Na.out], byteAt_right, reply_0, Nat.add_zero, Na.out] at this
    exact this
  go_wp2_with fail
  refine (hasP (reply a) (reply b) (a.size + b.size + 6) (a.size + 3) Nn.out Na.out g3 0 _ g1 0 _ _ d3 d1 (by omega)).mono ?_
  rintro e w10 ⟨rfl, q10⟩
  clear m0 m1
  go_wp2_with fail
  have dd := d3.drop (a.size + 3)
  rw [← Na.out, List.drop_left' rfl, Na.out, Nat.zero_add] at dd
  refine (eqB2 (reply b) _ _ (by rw [Nb.out]; omega) Nb.out g3 _ _ g2 0 _ _ (dd.hush q10) (d2.hush q10) (by omega)).mono ?_
  rintro e w11 ⟨rfl, q11⟩
  go_wp2
  go_ret
  exact ⟨rfl, L9.trans ((q10.trans q11).below _)⟩

theorem cat_all (a b : ByteArray) (w : World) (ha : a.size ≤ maxLen) (hb : b.size ≤ maxLen) : Calls Tryd.prog 3 #[.string a, .string b] w fun e w' => e = .returned (.bool true) ∧ Below w.heap.size w w' := by
  by_cases h : a.size + b.size ≤ 1048576
  · exact cat_yes a b w h
  · exact cat_no a b w ha hb h

end Go.Proofs.Qxb6616850aDoor
