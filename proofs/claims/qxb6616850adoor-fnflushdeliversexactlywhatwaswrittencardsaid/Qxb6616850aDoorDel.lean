/-
  FnFlushDeliversExactlyWhatWasWritten, walked.
-/
import Derived.Test.Qxb6616850aDoorOut
import Derived.Test.Qxb6616850aDoorCat
import Derived.Test.Qxb6616850aDoorHead
import Derived.Test.Qxb6616850aDoorDec
namespace Go.Proofs.Qxb6616850aDoor
open Go.RowKit

set_option maxHeartbeats 400000 in
theorem bytes31_yes (a : ByteArray) (n : Int) (w : World) (h : a.size ≤ 1048576) : Calls Tryd.prog 31 #[.string a, .int .i64 n] w fun e w' => e = .returned (.bool true) ∧ w' = w := by
  go_enter Tryd.func31, Tryd.ntmps31
  go_wp2
  go_ret
  exact ⟨rfl, rfl⟩

set_option maxHeartbeats 400000 in
set_option maxRecDepth 100000 in
theorem del_no (a : ByteArray) (n : Int) (w : World) (ha : a.size ≤ maxLen) (h : ¬ a.size ≤ 1048576) : Calls Tryd.prog 8 #[.string a, .int .i64 n] w fun e w' => e = .returned (.bool true) ∧ Below w.heap.size w w' := by
  unfold maxLen at ha
  have H : Calls Tryd.prog 31 #[.string a, .int .i64 n] w fun e w' => e = .returned (.bool false) ∧ w' = w := by
    go_enter Tryd.func31, Tryd.ntmps31
    go_wp2
    go_ret
    exact ⟨rfl, rfl⟩
  have H := Lib.hid H
  go_enter Tryd.func8, Tryd.ntmps8
  go_wp2_with (go_at_call 31; refine H.out.mono ?_; rintro e w1 ⟨rfl, rfl⟩)
  go_ret
  exact ⟨rfl, Below.refl _ _⟩

theorem take_snoc_ba (s : ByteArray) (k : Nat) (h : k < s.size) : s.data.toList.take (k + 1) = s.data.toList.take k ++ [s[k]] := by
  have hl : k < s.data.toList.length := by rw [← Lib.size_eq]; exact h
  rw [List.take_succ_eq_append_getElem hl]
  rfl
theorem take_snoc_l (l : List UInt8) (k : Nat) (h : k < l.length) : l.take (k + 1) = l.take k ++ [l.getD k 0] := by
  rw [List.take_succ_eq_append_getElem h]
  simp [List.getD, List.getElem?_eq_getElem h]

/-- What has been written: the reply and the line. -/
def both (s : ByteArray) (n : Int) : List UInt8 := reply s ++ hline 58 n
/-- .. up to the k-th digit. -/
def wantTo (s : ByteArray) (n : Int) (k : Nat) : List UInt8 := reply s ++ 58 :: (Lib.itoa n).take k
theorem wantTo_zero (s : ByteArray) (n : Int) : wantTo s n 0 = reply s ++ [58] := by simp [wantTo]
theorem wantTo_succ (s : ByteArray) (n : Int) (k : Nat) (h : k < (Lib.itoa n).length) : wantTo s n k ++ [(Lib.itoa n).getD k 0] = wantTo s n (k + 1) := by
  unfold wantTo
  rw [take_snoc_l _ _ h]
  simp
theorem wantTo_full (s : ByteArray) (n : Int) (k : Nat) (h : (Lib.itoa n).length ≤ k) : Lib.byteCells (wantTo s n k) ++ [Value.int .u8 13, Value.int .u8 10] = Lib.byteCells (both s n) := by
  unfold wantTo
  rw [List.take_of_length_le h]
  simp [Lib.byteCells, both, hline]

set_option maxHeartbeats 1600000 in
set_option maxRecDepth 100000 in
theorem del_yes (s : ByteArray) (n : Int) (hn0 : -9223372036854775808 ≤ n) (hn1 : n ≤ 9223372036854775807) (w : World) (h : s.size ≤ 1048576) (htab : Tab w) : Calls Tryd.prog 8 #[.string s, .int .i64 n] w fun e w' => e = .returned (.bool true) ∧ Below w.heap.size w w' := by
  obtain ⟨i0, hi, hz0, hz1, hz2⟩ := info_parts Tryd.info5a
  have H := Lib.hid (bytes31_yes s n w h)
  have Ns := Lib.hid (reply_length s)
  have hil := Lib.itoa_length_le n hn0 hn1
  obtain ⟨dl, hdl⟩ : ∃ dl, dl = (Lib.itoa n).length := ⟨_, rfl⟩
  rw [← hdl] at hil
  have Hdl := Lib.hid hdl
  have Nh : Hid ((hline 58 n).length = dl + 3) := by show _ = _; rw [hline_length, hdl]
  have Nb : Hid ((both s n).length = s.size + dl + 6) := by show _ = _; unfold both; rw [List.length_append, Ns.out, Nh.out]; omega
  clear hdl
  have hs : decide ((1048576 : Int) < s.size) = false := by simp; omega
  obtain ⟨B0, hB0⟩ : ∃ B0, B0 = w.heap.size := ⟨_, rfl⟩
  have h1B : 1 < B0 := by rw [hB0]; exact htab.lt
  have HB0 := Lib.hid hB0
  clear hB0
  go_enter Tryd.func8, Tryd.ntmps8
  go_wp2_with (go_at_call 31; refine H.out.mono ?_; rintro e w1 ⟨rfl, hw1⟩; refine Hid.out ?_)
  refine Lib.hid ?_
  clear H hw1
  go_wp2_with (go_at_call 12; refine (newSink _).mono ?_; rintro e w2 ⟨rfl, h2⟩; refine Hid.out ?_)
  refine Lib.hid ?_
  rw [← HB0.out]
  go_wp2_with (go_at_call 13; refine (newWriter B0 _).mono ?_; rintro e w3 ⟨rfl, M, hM, h3⟩; refine Hid.out ?_)
  refine Lib.hid ?_
  obtain ⟨r3, k3⟩ := rw_new HB0.out hM h2.out h3.out (fun k => k < B0) (fun k hk => by rw [← HB0.out]; exact hk)
  have z2 : w2.heap.size + 2 = B0 + 3 := by rw [h2.out, HB0.out]; simp
  rw [z2]
  clear h2 h3 hM z2 M
  go_wp2_with (go_at_call 14; refine (simpleString (fun k => k < B0) B0 _ _ _ _ [] [] s _ r3 (by simp; omega)).mono ?_; rintro e w4 ⟨rfl, o4, p4, r4, l4, z4, k4⟩; refine Hid.out ?_)
  refine Lib.hid ?_
  have e4 : o4 ++ p4 = reply s := by simpa [reply] using l4
  have E4 := Lib.hid e4
  have n4 : Hid (o4.length + p4.length = s.size + 3) := by have := congrArg List.length e4; rw [List.length_append, reply_length] at this; exact this
  have Z4 := Lib.hid z4
  have K4 := k3.trans k4
  have tab4 : Tab w4 := htab.kept (K4.block 1 h1B)
  clear l4 z4 e4 r3 k3 k4
  go_wp2_with (go_at_call 32; refine (integer (fun k => k < B0) B0 _ _ _ _ o4 p4 n hn0 hn1 _ r4 tab4 h1B (by have := n4.out; omega)).mono ?_; rintro e w5 ⟨rfl, sv5, o5, p5, r5, l5, z5, k5⟩; refine Hid.out ?_)
  refine Lib.hid ?_
  have e5 : o5 ++ p5 = both s n := by rw [l5, E4.out]; rfl
  have E5 := Lib.hid e5
  have n5 : Hid (o5.length + p5.length = s.size + dl + 6) := by have := congrArg List.length e5; rw [List.length_append, Nb.out] at this; exact this
  have Z5 : Hid (s.size + dl + 6 ≤ 65536 → o5.length = 0) := by
    intro hz
    have q4 := Z4.out (by simp; omega)
    have q5 := z5 (by rw [Nh.out]; have := n4.out; rw [q4] at this; simp at this; omega)
    rw [q5, q4]
    rfl
  have K5 := K4.trans k5
  clear l5 z5 e5 r4 k5 K4 tab4 E4 n4 Z4
  go_wp2_with (go_at_call 17; refine (sink17 _ _ _ _ _ _ _ _ _ r5).mono ?_; rintro e w6 ⟨v6, rfl, s6, r6, k6⟩; refine Hid.out ?_)
  refine Lib.hid ?_
  obtain ⟨ol, hol⟩ : ∃ ol, o5.length = ol := ⟨_, rfl⟩
  have Hol := Lib.hid hol
  rw [hol] at n5 Z5
  clear hol
  have hol2 : ol ≤ s.size + dl + 6 := by have := n5.out; omega
  go_wp2_with (go_at_call 16; refine (copy16 o5 v6 _ s6 ol Hol.out (by omega)).mono ?_; rintro e w7 ⟨rfl, c7⟩; refine Hid.out ?_)
  refine Lib.hid ?_
  have r7 := c7.rw r6
  have K7 := (K5.trans k6).trans (c7.kept (Pt := fun k => k < B0) r6.inn)
  have d7 := c7.rd
  clear K5 k6 r5 r6 s6 c7
  generalize w6.heap.size = g1 at *
  go_wp2_with (go_at_call 15; refine (rflush _ _ _ _ _ _ o5 p5 _ r7 (by have := n5.out; have := Hol.out; omega)).mono ?_; rintro e w8 ⟨rfl, r8, k8⟩; refine Hid.out ?_)
  refine Lib.hid ?_
  rw [E5.out] at r8
  go_wp2_with (go_at_call 17; refine (sink17 _ _ _ _ _ _ _ _ _ r8).mono ?_; rintro e w9 ⟨v9, rfl, s9, r9, k9⟩; refine Hid.out ?_)
  refine Lib.hid ?_
  go_wp2_with (go_at_call 16; refine (copy16 (both s n) v9 _ s9 (s.size + dl + 6) Nb.out (by omega)).mono ?_; rintro e w10 ⟨rfl, c10⟩; refine Hid.out ?_)
  refine Lib.hid ?_
  have k10 := c10.kept (Pt := fun k => k < B0 ∨ k = g1) r9.inn
  have K10 := (k8.trans k9).trans k10
  have L10 := (K7.trans (K10.mono fun k hk => .inl hk)).toBelow (B := B0) (fun k hk => hk)
  have d1 := d7.kept (K10.block g1 (.inr rfl))
  have d2 := c10.rd
  have hg1 : g1 < w10.heap.size := Nat.lt_of_lt_of_le (r7.inn g1 (.inr rfl)) K10.size
  have hg2 : w9.heap.size < w10.heap.size := by have := c10.2.2; omega
  clear k8 k9 k10 r7 r8 r9 s9 c10 d7 K7 K10
  generalize w9.heap.size = g2 at *
  -- 'want'
  obtain ⟨M, hM⟩ : ∃ M, M = madeCells (Value.int .u8 0).cells (((s.size : Int) + 32).toNat * i0.size) := ⟨_, rfl⟩
  have hMs : M.size = s.size + 32 := by rw [hM, size_madeCells, hz1]; simp; omega
  have hmk : ∀ W : World, (Instr.makeSlice 23 (.int .i64 0) (.int .i64 ((s.size : Int) + 32))).run Tryd.prog W = .ok (.slice (some ⟨W.heap.size, 0, none⟩) 0 (s.size + 32)) (W.alloc (.cells M 5)) := fun W => by
    have h := run_makeSlice (P := Tryd.prog) W 23 5 i0 (.int .u8 0) Tryd.underlying23 hi hz0 .i64 .i64 0 ((s.size : Int) + 32) (by omega) (by omega) (by rw [hz1]; omega) (by rw [hz2]; omega) (by omega)
    rw [← hM] at h
    rw [h]
    simp
    omega
  clear hM
  have hmade : (w10.alloc (.cells M 5)).ownsRow w10.heap.size 5 1 (.slice (some ⟨w10.heap.size, 0, none⟩) 0 (s.size + 32)) 0 [] := World.ownsRow_made w10 M (s.size + 32) (Nat.le_refl _) (by unfold maxLen; omega) (by omega)
  have hbm : Below w10.heap.size w10 (w10.alloc (.cells M 5)) := (Below.refl _ w10).alloc (Nat.le_refl _) _
  have HMs := Lib.hid hMs
  clear hMs
  go_wp2_with (at_builtin; refine wpList_append_own _ rfl _ _ 23 rfl w10.heap.size 5 i0 (.int .u8 0) 1 1 Tryd.underlying23 hi hz0 hz1 hz2 rfl (by decide) _ _ _ rfl (hmade.alloc _) ⟨w10.heap.size + 1, 0, none⟩ 1 1 [Value.int .u8 43] rfl rfl ?c1 (by intro u' hu'; simp at hu'; subst hu'; rfl) (by unfold maxLen; omega) (by omega) (by simp; omega) ?_)
  case c1 =>
    intro j u' hj
    match j, hj with
    | 0, hj => simp at hj; subst hj; simp [Addr.add]
  intro v11 w11 hown11 hgrow11 _
  have hb11 : Below w10.heap.size w10 w11 := (hbm.alloc (by simp) _).grown hgrow11 (by simp; omega) (fun k hk => (hmade.lt k hk).1)
  clear hmade hbm hgrow11 hmk HMs
  go_wp2
  go_loopw [10, 11] (fun v i wr => ∃ k : Nat, k ≤ s.size ∧ i = .int .i64 k ∧ wr.ownsRow w10.heap.size 5 1 v (1 + k) (Lib.byteCells (43 :: s.data.toList.take k)) ∧ Below w10.heap.size w10 wr) (fun _ i _ => s.size - (intOf i).toNat)
  case atStart => exact ⟨0, Nat.zero_le _, rfl, hown11, hb11⟩
  case round =>
    rename World => wo
    obtain ⟨k, hk, rfl, hown, hb⟩ := hrel
    clear hown11 hb11
    by_cases hlt : k < s.size
    · have hb0 : (k : Int) < s.size := by omega
      have hsn := take_snoc_ba s k hlt
      have Hsn := Lib.hid hsn
      clear hsn
      go_wp2_with (at_builtin; refine wpList_append_own _ rfl _ _ 23 rfl w10.heap.size 5 i0 (.int .u8 0) 1 1 Tryd.underlying23 hi hz0 hz1 hz2 rfl (by decide) _ _ _ rfl (hown.alloc _) ⟨wo.heap.size, 0, none⟩ 1 1 [Value.int .u8 (s[k].toNat : Int)] rfl rfl ?c1 (by intro u' hu'; simp at hu'; subst hu'; rfl) (by unfold maxLen; omega) (by omega) (by have := hb.size; simp; omega) ?_)
      case c1 =>
        intro j u' hj
        match j, hj with
        | 0, hj => simp at hj; subst hj; simp [Addr.add]
      intro v12 w12 hown12 hgrow12 _
      have hb12 : Below w10.heap.size w10 w12 := (hb.alloc hb.size _).grown hgrow12 (by have := hb.size; simp; omega) (fun k hk => (hown.lt k hk).1)
      rw [bcs_snoc, List.cons_append, ← Hsn.out] at hown12
      clear hown hgrow12 hb
      go_wp2
      go_roundw
      case rel => exact ⟨k + 1, by omega, by go_num, by rw [← Nat.add_assoc]; exact hown12, hb12⟩
      case measure => simp [intOf]; omega
    · have hks : k = s.size := by omega
      subst hks
      have hl0 : List.take s.size s.data.toList = s.data.toList := List.take_of_length_le (by rw [← Lib.size_eq]; exact Nat.le_refl _)
      rw [hl0] at hown
      have hH := hb.size
      clear hl0
      go_wp2_with (at_builtin; refine wpList_append_own _ rfl _ _ 23 rfl w10.heap.size 5 i0 (.int .u8 0) 1 1 Tryd.underlying23 hi hz0 hz1 hz2 rfl (by decide) _ _ _ rfl (hown.alloc _) ⟨wo.heap.size, 0, none⟩ 3 3 [Value.int .u8 13, Value.int .u8 10, Value.int .u8 58] rfl rfl ?c1 (by intro u' hu'; simp at hu'; rcases hu' with rfl | rfl | rfl <;> rfl) (by unfold maxLen; omega) (by omega) (by simp; omega) ?_)
      case c1 => exact World.news_of_block (cs := #[Value.int .u8 13, Value.int .u8 10, Value.int .u8 58]) (t := 5) (fr := (0, 0)) (heap_alloc_new wo _)
      intro v12 w12 hown12 hgrow12 _
      have hb12 : Below w10.heap.size w10 w12 := (hb.alloc hb.size _).grown hgrow12 (by simp; omega) (fun k hk => (hown.lt k hk).1)
      have e12 : Lib.byteCells (43 :: s.data.toList) ++ [Value.int .u8 13, Value.int .u8 10, Value.int .u8 58] = Lib.byteCells (reply s ++ [58]) := by simp [Lib.byteCells, reply]
      rw [e12] at hown12
      clear hown hgrow12 hb e12
      go_wp2_with (go_at_call 26; refine (decimal n hn0 hn1 _).mono ?_; rintro e w13 ⟨gd, capd, rfl, hdc, hdm, rdd, hgd, hgd2, hb13⟩; refine Hid.out ?_)
      refine Lib.hid ?_
      rw [← Hdl.out] at hdc ⊢
      unfold maxLen at hdm
      have hown13 : w13.ownsRow w10.heap.size 5 1 v12 (1 + s.size + 3) (Lib.byteCells (reply s ++ [58])) := hown12.kept (row := none) ⟨hb13.os, hb13.tape, hb13.output, hb13.size, fun k hk _ => hb13.block k hk⟩ (by cases hv : v12.ownBlock <;> simp)
      have hne13 : v12.ownBlock ≠ some gd := fun e => by have := (hown12.lt gd e).2; omega
      have hb13' : Below w10.heap.size w10 w13 := hb12.trans (hb13.mono hb12.size)
      clear hown12 hb12 hb13
      go_wp2
      go_loopw [10, 13] (fun v i wr => ∃ k : Nat, k ≤ dl ∧ i = .int .i64 k ∧ wr.ownsRow w10.heap.size 5 1 v (1 + s.size + 3 + k) (Lib.byteCells (wantTo s n k)) ∧ Below w10.heap.size w10 wr ∧ Rd (Lib.itoa n) gd 0 wr ∧ v.ownBlock ≠ some gd ∧ gd < wr.heap.size) (fun _ i _ => dl - (intOf i).toNat)
      case atStart => exact ⟨0, Nat.zero_le _, rfl, by rw [wantTo_zero, Nat.add_zero]; exact hown13, hb13', rdd, hne13, hgd2⟩
      case round =>
        obtain ⟨k, hk, rfl, hown, hb, hrd, hne, hgw⟩ := hrel
        clear hown13 hb13' rdd hne13
        by_cases hld : k < dl
        · have hb0 : (k : Int) < dl := by omega
          have hbk : (0 : Int) ≤ k := by omega
          have hsn := wantTo_succ s n k (by rw [← Hdl.out]; exact hld)
          have Hsn := Lib.hid hsn
          clear hsn
          have c1 : wr.cell? ⟨gd, k, none⟩ = some (.int .u8 (((Lib.itoa n).getD k 0).toNat : Int)) := by
            have := hrd k (by rw [← Hdl.out]; exact hld)
            rwa [Nat.zero_add, byteAt_toNat] at this
          obtain ⟨c, hc⟩ : ∃ c : UInt8, c = (Lib.itoa n).getD k 0 := ⟨_, rfl⟩
          rw [← hc] at c1
          have Hc := Lib.hid hc
          clear hc
          have hH := hb.size
          go_wp2_with (at_builtin; refine wpList_append_lies _ rfl _ _ 23 rfl w10.heap.size 5 i0 (.int .u8 0) 1 1 Tryd.underlying23 hi hz0 hz1 hz2 rfl (by decide) _ _ _ rfl (hown.alloc _) ⟨wr.heap.size, 0, none⟩ 1 1 [Value.int .u8 (c.toNat : Int)] rfl rfl ?c1 (by intro u' hu'; simp at hu'; subst hu'; rfl) (by decide) (by unfold maxLen; omega) (by omega) (by simp; omega) _ rfl ?_)
          case c1 =>
            intro j u' hj
            match j, hj with
            | 0, hj => simp at hj; subst hj; simp [Addr.add]
          intro g14 cap14 w14 hown14 hgrow14 hat14 hlt14
          have hb14 : Below w10.heap.size w10 w14 := (hb.alloc hb.size _).grown hgrow14 (by simp; omega) (fun k hk => (hown.lt k hk).1)
          have hrd14 : Rd (Lib.itoa n) gd 0 w14 := (hrd.kept (Below.heap_alloc wr (.cells #[Value.int .u8 (c.toNat : Int)] 5) gd hgw)).kept (hgrow14.block gd (by simp; omega) (Ne.symm hne))
          have hne14 : (Value.slice (some ⟨g14, 0, none⟩) (1 + s.size + 3 + k + 1) cap14).ownBlock ≠ some gd := fun e => by
            simp [Value.ownBlock] at e
            subst e
            rcases hat14 with p | p
            · exact hne p
            · omega
          have hgw14 : gd < w14.heap.size := by have := hgrow14.size; simp at this; omega
          rw [bcs_snoc, Hc.out, Hsn.out] at hown14
          clear hown hgrow14 hb hat14 hlt14 hrd hne
          go_wp2
          go_roundw
          case rel => exact ⟨k + 1, by omega, by go_num, hown14, hb14, hrd14, hne14, hgw14⟩
          case measure => simp [intOf]; omega
        · have hkd : k = dl := by omega
          have hl0 := wantTo_full s n k (by rw [← Hdl.out]; omega)
          have Hl0 := Lib.hid hl0
          have hH := hb.size
          clear hl0 hkd
          go_wp2_with (at_builtin; refine wpList_append_own _ rfl _ _ 23 rfl w10.heap.size 5 i0 (.int .u8 0) 1 1 Tryd.underlying23 hi hz0 hz1 hz2 rfl (by decide) _ _ _ rfl (hown.alloc _) ⟨wr.heap.size, 0, none⟩ 2 2 [Value.int .u8 13, Value.int .u8 10] rfl rfl ?c1 (by intro u' hu'; simp at hu'; rcases hu' with rfl | rfl <;> rfl) (by unfold maxLen; omega) (by omega) (by simp; omega) ?_)
          case c1 => exact World.news_of_block (cs := #[Value.int .u8 13, Value.int .u8 10]) (t := 5) (fr := (0, 0)) (heap_alloc_new wr _)
          intro v14 w14 hown14 hgrow14 _
          have hb14 : Below w10.heap.size w10 w14 := (hb.alloc hb.size _).grown hgrow14 (by simp; omega) (fun k hk => (hown.lt k hk).1)
          rw [Hl0.out, show 1 + s.size + 3 + k + 2 = s.size + dl + 6 by omega] at hown14
          clear hown hgrow14 hb hrd hne
          obtain ⟨gw, capw, hvw, hwc, hwm, rdw, hBw, hgw3⟩ := ownsRow_rd hown14 Nb.out (by omega)
          unfold maxLen at hwm
          rw [hvw]
          have f1 := d1.kept (hb14.block g1 hg1)
          have f2 := d2.kept (hb14.block g2 hg2)
          have hBB : B0 ≤ w10.heap.size := Nat.le_trans (by rw [HB0.out]; exact Nat.le_refl _) L10.size
          have L14 := L10.trans (hb14.mono hBB)
          clear hown14 hb14 d1 d2 hvw
          go_wp2_with fail
          refine (eqB (both s n) (s.size + dl + 6) Nb.out g2 0 _ gw 0 _ _ f2 rdw (by omega)).mono ?_
          rintro e w15 ⟨rfl, q15⟩
          have rdw' := rdw.hush q15
          have f1' := f1.hush q15
          rw [← E5.out] at rdw'
          have hob : (o5 ++ p5).length = s.size + dl + 6 := by rw [E5.out]; exact Nb.out
          have Hob := Lib.hid hob
          clear hob
          by_cases hT : s.size + dl + 6 ≤ 65536
          · have hol0 := Z5.out hT
            subst hol0
            go_wp2_with fail
            refine (hasP o5 p5 (s.size + dl + 6) 0 Hob.out Hol.out gw 0 _ g1 0 _ _ rdw' f1' (by omega)).mono ?_
            rintro e w16 ⟨rfl, q16⟩
            have hT' : decide ((s.size : Int) + dl + 6 ≤ 65536) = true := by simp; omega
            clear hT
            go_wp2
            go_ret
            refine ⟨rfl, ?_⟩
            rw [← HB0.out]
            exact L14.trans ((q15.trans q16).below _)
          · go_wp2_with fail
            refine (hasP o5 p5 (s.size + dl + 6) ol Hob.out Hol.out gw 0 _ g1 0 _ _ rdw' f1' (by omega)).mono ?_
            rintro e w16 ⟨rfl, q16⟩
            have hT' : decide ((s.size : Int) + dl + 6 ≤ 65536) = false := by simp; omega
            clear hT
            go_wp2
            go_ret
            refine ⟨rfl, ?_⟩
            rw [← HB0.out]
            exact L14.trans ((q15.trans q16).below _)

theorem del_all (s : ByteArray) (n : Int) (hs : s.size ≤ maxLen) (hn0 : -9223372036854775808 ≤ n) (hn1 : n ≤ 9223372036854775807) (w : World) (htab : Tab w) : Calls Tryd.prog 8 #[.string s, .int .i64 n] w fun e w' => e = .returned (.bool true) ∧ Below w.heap.size w w' := by
  by_cases h : s.size ≤ 1048576
  · exact del_yes s n hn0 hn1 w h htab
  · exact del_no s n w hs h

end Go.Proofs.Qxb6616850aDoor
