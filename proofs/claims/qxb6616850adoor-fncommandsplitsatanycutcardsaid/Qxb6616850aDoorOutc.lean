/-
  zzOutCommand, zzOutArray, resp.Writer's Bulk, at this dump.
-/
import Derived.Test.Qxb6616850aDoorCmd
import Derived.Lib.ConvBytes
namespace Go.Proofs.Qxb6616850aDoor
open Go.RowKit

set_option maxHeartbeats 1600000 in
set_option maxRecDepth 100000 in
theorem outCommand (L : List ByteArray) (ao : Option Addr) (n c z : Nat) (w : World) (hA : Args (fun k => k < w.heap.size) L ao n c w) (hL : cost L ≤ 1048576) (htab : Tab w) (hz : (cmd L).length = z) :
    Calls Tryd.prog 25 #[.slice ao n c] w fun e w' => ∃ g, e = .returned (.tuple #[.slice (some ⟨g, 0, none⟩) z z, .bool true]) ∧ Outs (cmd L) g w w' := by
  have hz2 : z ≤ 1048586 := by rw [← hz]; exact cmd_le L hL
  have Hz := Lib.hid hz
  clear hz
  obtain ⟨B0, hB0⟩ : ∃ B0, B0 = w.heap.size := ⟨_, rfl⟩
  have h1B : 1 < B0 := by rw [hB0]; exact htab.lt
  rw [← hB0] at hA
  have HB0 := Lib.hid hB0
  clear hB0
  go_enter Tryd.func25, Tryd.ntmps25
  go_wp2_with (go_at_call 12; refine (newSink _).mono ?_; rintro e w2 ⟨rfl, h2⟩; refine Hid.out ?_)
  refine Lib.hid ?_
  rw [← HB0.out]
  go_wp2_with (go_at_call 13; refine (newWriter B0 _).mono ?_; rintro e w3 ⟨rfl, M, hM, h3⟩; refine Hid.out ?_)
  refine Lib.hid ?_
  obtain ⟨r3, k3⟩ := rw_new HB0.out hM h2.out h3.out (fun k => k < B0) (fun k hk => by rw [← HB0.out]; exact hk)
  have z2 : w2.heap.size + 2 = B0 + 3 := by rw [h2.out, HB0.out]; simp
  rw [z2]
  clear h2 h3 hM z2 M
  have tab3 : Tab w3 := htab.kept (k3.block 1 h1B)
  go_wp2_with (go_at_call 39; refine (command (fun k => k < B0) B0 _ _ _ _ [] [] L ao n c _ r3 (hA.kept k3) hL tab3 h1B (by simp)).mono ?_; rintro e w4 ⟨rfl, sv4, o4, p4, r4, l4, k4⟩; refine Hid.out ?_)
  refine Lib.hid ?_
  have e4 : o4 ++ p4 = cmd L := by simpa using l4
  have E4 := Lib.hid e4
  have n4 : Hid (o4.length + p4.length = z) := by have := congrArg List.length e4; rw [List.length_append, Hz.out] at this; exact this
  clear l4 e4 r3 tab3
  go_wp2_with (go_at_call 15; refine (rflush _ _ _ _ _ _ o4 p4 _ r4 (by have := n4.out; omega)).mono ?_; rintro e w5 ⟨rfl, r5, k5⟩; refine Hid.out ?_)
  refine Lib.hid ?_
  rw [E4.out] at r5
  clear E4 n4 r4
  have K5 := (k3.trans k4).trans k5
  clear k3 k4 k5
  go_wp2_with fail
  go_region_held3 (fun _ => True) (trivial) (first
    | (go_at_call 17; refine (sink17 _ _ _ _ _ _ _ _ _ (r5.drewN 1)).mono ?_; rintro e w6 ⟨v6, rfl, s6, r6, k6⟩)
    | (go_at_call 16; refine (copy16 (cmd L) v6 _ s6 z Hz.out (by omega)).mono ?_; rintro e w7 ⟨rfl, c7⟩))
  go_wp2
  go_ret2
  have hb : Below w.heap.size w w6 := (K5.trans k6.offDrewN).toBelow fun k hk => by rw [HB0.out]; exact hk
  exact ⟨w6.heap.size, rfl, Outs.of hb c7⟩

set_option maxHeartbeats 1600000 in
set_option maxRecDepth 100000 in
theorem outArray (m : Nat) (hm : m ≤ 1048576) (z : Nat) (w : World) (htab : Tab w) (hz : (hline 42 (m : Int)).length = z) :
    Calls Tryd.prog 21 #[.int .i64 m] w fun e w' => ∃ g, e = .returned (.tuple #[.slice (some ⟨g, 0, none⟩) z z, .bool true]) ∧ Outs (hline 42 (m : Int)) g w w' := by
  have hz2 : z ≤ 30 := by rw [← hz, hline_length]; have := itoa_nat_len m hm; omega
  have Hz := Lib.hid hz
  clear hz
  obtain ⟨B0, hB0⟩ : ∃ B0, B0 = w.heap.size := ⟨_, rfl⟩
  have h1B : 1 < B0 := by rw [hB0]; exact htab.lt
  have HB0 := Lib.hid hB0
  clear hB0
  go_enter Tryd.func21, Tryd.ntmps21
  go_wp2_with (go_at_call 12; refine (newSink _).mono ?_; rintro e w2 ⟨rfl, h2⟩; refine Hid.out ?_)
  refine Lib.hid ?_
  rw [← HB0.out]
  go_wp2_with (go_at_call 13; refine (newWriter B0 _).mono ?_; rintro e w3 ⟨rfl, M, hM, h3⟩; refine Hid.out ?_)
  refine Lib.hid ?_
  obtain ⟨r3, k3⟩ := rw_new HB0.out hM h2.out h3.out (fun k => k < B0) (fun k hk => by rw [← HB0.out]; exact hk)
  have z2 : w2.heap.size + 2 = B0 + 3 := by rw [h2.out, HB0.out]; simp
  rw [z2]
  clear h2 h3 hM z2 M
  have tab3 : Tab w3 := htab.kept (k3.block 1 h1B)
  go_wp2_with (go_at_call 28; refine (array (fun k => k < B0) B0 _ _ _ _ [] [] m (by omega) (by omega) _ r3 tab3 h1B (by simp)).mono ?_; rintro e w4 ⟨rfl, sv4, o4, p4, r4, l4, z4, k4⟩; refine Hid.out ?_)
  refine Lib.hid ?_
  have e4 : o4 ++ p4 = hline 42 (m : Int) := by simpa using l4
  have E4 := Lib.hid e4
  have n4 : Hid (o4.length + p4.length = z) := by have := congrArg List.length e4; rw [List.length_append, Hz.out] at this; exact this
  clear l4 z4 e4 r3 tab3
  go_wp2_with (go_at_call 15; refine (rflush _ _ _ _ _ _ o4 p4 _ r4 (by have := n4.out; omega)).mono ?_; rintro e w5 ⟨rfl, r5, k5⟩; refine Hid.out ?_)
  refine Lib.hid ?_
  rw [E4.out] at r5
  clear E4 n4 r4
  have K5 := (k3.trans k4).trans k5
  clear k3 k4 k5
  go_wp2_with fail
  go_region_held3 (fun _ => True) (trivial) (first
    | (go_at_call 17; refine (sink17 _ _ _ _ _ _ _ _ _ (r5.drewN 1)).mono ?_; rintro e w6 ⟨v6, rfl, s6, r6, k6⟩)
    | (go_at_call 16; refine (copy16 (hline 42 (m : Int)) v6 _ s6 z Hz.out (by omega)).mono ?_; rintro e w7 ⟨rfl, c7⟩))
  go_wp2
  go_ret2
  have hb : Below w.heap.size w w6 := (K5.trans k6.offDrewN).toBelow fun k hk => by rw [HB0.out]; exact hk
  exact ⟨w6.heap.size, rfl, Outs.of hb c7⟩

set_option maxHeartbeats 1600000 in
set_option maxRecDepth 100000 in
theorem bulk29 (Pt : Nat → Prop) (s b r q : Nat) (sv : Value) (out pend : List UInt8) (a : ByteArray) (g c : Nat) (w : World) (h : Rw Pt s b r q sv out pend w) (ha : a.size ≤ 1048576) (hg : Pt g) (hrd : Rd a.data.toList g 0 w) (hc : a.size ≤ c) (hcm : c ≤ 9223372036854775807)
    (htab : Tab w) (hP : Pt 1) (hlim : out.length + pend.length ≤ 4194304) :
    Calls Tryd.prog 29 #[.pointer (some ⟨q, 0, none⟩), .slice (some ⟨g, 0, none⟩) a.size c] w fun e w' => e = .returned (.tuple #[]) ∧
      ∃ sv2 o2 p2, Rw Pt s b r q sv2 o2 p2 w' ∧ o2 ++ p2 = out ++ pend ++ bulk a ∧ Kept Pt w w' := by
  have Hlim := Lib.hid hlim
  clear hlim
  go_enter Tryd.func29, Tryd.ntmps29
  go_wp2_with (go_at_call 40; refine (header Pt s b r q sv out pend 36 36 rfl a.size (by omega) (by omega) _ h htab hP (by have := Hlim.out; omega)).mono ?_; rintro e w3 ⟨rfl, sv3, o3, p3, r3, l3, z3, k3⟩; refine Hid.out ?_)
  refine Lib.hid ?_
  have L3 := Lib.hid l3
  have n3 : Hid (o3.length + p3.length ≤ 4194330) := by
    have := congrArg List.length L3.out
    simp only [List.length_append, hline_length] at this
    have := itoa_nat_len a.size ha
    have := Hlim.out
    show _ ≤ _
    omega
  clear l3 z3
  have c0 := r3.c0
  have rd3 := hrd.kept (k3.block g hg)
  go_wp2_with (go_at_call 41; refine (bwrite (Scr Pt q sv3) s b r o3 p3 a.data.toList g 0 c a.size (Lib.size_eq a).symm _ r3.bw (.inl hg) rd3 hc hcm (by have := n3.out; omega)).mono ?_; rintro e w4 ⟨rfl, o4, p4, h4, l4, z4, k4⟩; refine Hid.out ?_)
  refine Lib.hid ?_
  have r4 := r3.next h4 k4
  have L4 := Lib.hid l4
  have n4 : Hid (o4.length + p4.length ≤ 8388608) := by
    have := congrArg List.length L4.out
    simp only [List.length_append] at this
    have : a.data.toList.length = a.size := (Lib.size_eq a).symm
    have := n3.out
    show _ ≤ _
    omega
  clear l4 z4 c0
  have c0 := r4.c0
  go_wp2_with (go_at_call 36; refine (writeString (Scr Pt q sv3) s b r o4 p4 ⟨#[13, 10]⟩ _ r4.bw (by have := n4.out; show _ + 2 ≤ _; omega)).mono ?_; rintro e w5 ⟨rfl, o5, p5, h5, l5, z5, k5⟩; refine Hid.out ?_)
  refine Lib.hid ?_
  have r5 := r4.next h5 k5
  have L5 := Lib.hid l5
  clear l5 z5 c0
  have K5 := k3.trans ((k4.trans k5).mono fun i hi => .inl hi)
  go_wp2
  go_end0
  refine ⟨rfl, sv3, o5, p5, r5, ?_, K5⟩
  rw [L5.out, L4.out, L3.out]
  simp [bulk]

end Go.Proofs.Qxb6616850aDoor
