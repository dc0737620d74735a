/-
  FnCommandSplitsAtAnyCut, walked.
-/
import Derived.Test.Qxb6616850aDoorLawc
import Derived.Test.Qxb6616850aDoorCut
namespace Go.Proofs.Qxb6616850aDoor
open Go.RowKit

theorem cost_sub_take (L : List ByteArray) (k : Nat) (h : cost L ≤ 1048576) : cost (L.take k) ≤ 1048576 := Nat.le_trans (cost_take L k) h
theorem cost_sub_drop (L : List ByteArray) (k : Nat) (h : cost L ≤ 1048576) : cost (L.drop k) ≤ 1048576 := Nat.le_trans (cost_drop L k) h

/-- The six outputs' lengths, and where each byte lies. -/
structure CutOf (L : List ByteArray) (n k m h0 h1 h2 bl br : Nat) : Prop where
  len : L.length = n
  nm : n = k + m
  h0 : (hline 42 (n : Int)).length = h0
  h1 : (hline 42 (k : Int)).length = h1
  h2 : (hline 42 (m : Int)).length = h2
  bl : (body (L.take k)).length = bl
  br : (body (L.drop k)).length = br
  lt : (L.take k).length = k
  ld : (L.drop k).length = m

section
variable {L : List ByteArray} {n k m h0 h1 h2 bl br : Nat}
theorem CutOf.z0 (H : CutOf L n k m h0 h1 h2 bl br) : (cmd L).length = h0 + bl + br := by
  rw [cmd_body, body_cut L k, List.length_append, List.length_append, H.len, H.h0, H.bl, H.br, Nat.add_assoc]
theorem CutOf.z1 (H : CutOf L n k m h0 h1 h2 bl br) : (cmd (L.take k)).length = h1 + bl := by
  rw [cmd_body, List.length_append, H.lt, H.h1, H.bl]
theorem CutOf.z2 (H : CutOf L n k m h0 h1 h2 bl br) : (cmd (L.drop k)).length = h2 + br := by
  rw [cmd_body, List.length_append, H.ld, H.h2, H.br]
theorem CutOf.e0 (H : CutOf L n k m h0 h1 h2 bl br) : cmd L = hline 42 (n : Int) ++ (body (L.take k) ++ body (L.drop k)) := by
  rw [cmd_body, body_cut L k, H.len]
theorem CutOf.e1 (H : CutOf L n k m h0 h1 h2 bl br) : cmd (L.take k) = hline 42 (k : Int) ++ body (L.take k) := by rw [cmd_body, H.lt]
theorem CutOf.e2 (H : CutOf L n k m h0 h1 h2 bl br) : cmd (L.drop k) = hline 42 (m : Int) ++ body (L.drop k) := by rw [cmd_body, H.ld]
end

theorem rd_tail {h b : List UInt8} {g o n : Nat} {w : World} (hr : Rd (h ++ b) g 0 w) (hn : h.length = n) (ho : b.length ≠ 0 → o = n) : Rd b g o w := by
  by_cases hb : b.length = 0
  · intro j hj; omega
  · have := hr.drop n
    rw [← hn, List.drop_left, hn, Nat.zero_add] at this
    rw [ho hb]
    exact this

set_option maxHeartbeats 6400000 in
set_option maxRecDepth 100000 in
theorem lawk (L : List ByteArray) (ao : Option Addr) (n c : Nat) (kv : Int) (hk0 : -9223372036854775808 ≤ kv) (hk1 : kv ≤ 9223372036854775807) (w : World) (hA : Args (fun k => k < w.heap.size) L ao n c w) (hbig : ∀ k, (L.getD k ByteArray.empty).size ≤ maxLen) (htab : Tab w) :
    Calls Tryd.prog 6 #[.slice ao n c, .int .i64 kv] w fun e w' => e = .returned (.bool true) ∧ Below w.heap.size w w' := by
  have hnc := hA.le
  have hcm := hA.max
  have Hlen := Lib.hid hA.len
  go_enter Tryd.func6, Tryd.ntmps6
  go_wp2_with (go_at_call 24; refine (bytes24 _ L ao n c kv _ hA hbig).mono ?_; rintro e w1 ⟨b, rfl, hw1, hsm⟩; refine Hid.out ?_)
  refine Lib.hid ?_
  replace hw1 := hw1.symm
  subst hw1
  cases b
  · go_wp2
    go_ret
    exact ⟨rfl, Below.refl _ _⟩
  have Hsm := Lib.hid (hsm rfl)
  clear hsm hbig
  go_wp2
  go_loopw [5, 6] (fun t i wr => ∃ k x : Nat, k ≤ n ∧ i = .int .i64 k ∧ t = .int .i64 x ∧ Hid (x = cost (L.take k)) ∧ x ≤ 1048576 ∧ wr = w) (fun _ i _ => n - (intOf i).toNat)
  case atStart => exact ⟨0, 0, Nat.zero_le _, rfl, rfl, Lib.hid (cost_take_zero L).symm, by omega, rfl⟩
  case round =>
    obtain ⟨k, x, hk, rfl, rfl, Hx, hx, hwr⟩ := hrel
    replace hwr := hwr.symm
    subst hwr
    by_cases hlt : k < n
    · obtain ⟨g, o, rfl, pg, hc⟩ := hA.at_ (by omega)
      have c1 := hc k hlt
      have hb := Hsm.out k hlt
      have hst := cost_take_succ L k (by rw [Hlen.out]; exact hlt)
      obtain ⟨a, ha⟩ : ∃ a, L.getD k ByteArray.empty = a := ⟨_, rfl⟩
      rw [ha] at c1 hb hst
      have Hst := Lib.hid hst
      have b0 : (0 : Int) ≤ k := by omega
      have b1 : (k : Int) < n := by omega
      clear ha hc hA hst
      by_cases h2 : x + (16 + a.size) ≤ 1048576
      · have t2 : decide ((1048576 : Int) < x + (16 + a.size)) = false := by simp; omega
        go_wp2
        go_roundw
        case rel => exact ⟨k + 1, x + (16 + a.size), by omega, by go_num, by go_num, Lib.hid (by rw [Hst.out, ← Hx.out]), h2, by trivial⟩
        case measure => simp [intOf]; omega
      · have t2 : decide ((1048576 : Int) < x + (16 + a.size)) = true := by simp; omega
        go_wp2
        go_ret
        exact ⟨rfl, Below.refl _ _⟩
    · have hkn : n = k := by omega
      subst hkn
      have hL : cost L ≤ 1048576 := by rw [← cost_take_full, Hlen.out, ← Hx.out]; exact hx
      have hn16 : 16 * n ≤ 1048576 := by have := cost_len L; have := Hlen.out; omega
      clear Hx hx
      have HL := Lib.hid hL
      clear hL
      by_cases hneg : kv < 0
      · have t1 : decide (kv < 0) = true := by simpa using hneg
        clear hneg
        go_wp2
        go_ret
        exact ⟨rfl, Below.refl _ _⟩
      have t1 : decide (kv < 0) = false := by simpa using hneg
      by_cases hbig : (n : Int) < kv
      · have t2 : decide ((n : Int) < kv) = true := by simpa using hbig
        clear hbig hneg
        go_wp2
        go_ret
        exact ⟨rfl, Below.refl _ _⟩
      have t2 : decide ((n : Int) < kv) = false := by simpa using hbig
      obtain ⟨k, rfl⟩ : ∃ k : Nat, kv = k := ⟨kv.toNat, by omega⟩
      have hkn : k ≤ n := by omega
      obtain ⟨m, hm⟩ : ∃ m, n = k + m := ⟨n - k, by omega⟩
      obtain ⟨slo, hAlo⟩ := args_lo hA k hkn
      obtain ⟨ao2, shi, hAhi⟩ := args_hi hA k hkn
      have hmm : n - k = m := by omega
      rw [hmm] at shi hAhi
      have hsub : (n : Int) - k = m := by omega
      have hmn : m ≤ n := by omega
      have H : Hid (CutOf L n k m (hline 42 (n : Int)).length (hline 42 (k : Int)).length (hline 42 (m : Int)).length (body (L.take k)).length (body (L.drop k)).length) :=
        ⟨Hlen.out, hm, rfl, rfl, rfl, rfl, rfl, by rw [List.length_take, Hlen.out]; omega, by rw [List.length_drop, Hlen.out]; omega⟩
      generalize (hline 42 (n : Int)).length = h0 at H
      generalize (hline 42 (k : Int)).length = h1 at H
      generalize (hline 42 (m : Int)).length = h2 at H
      generalize (body (L.take k)).length = bl at H
      generalize (body (L.drop k)).length = br at H
      have hz0 : h0 + bl + br ≤ 1048586 := by rw [← H.out.z0]; exact cmd_le L HL.out
      have hz1 : h1 + bl ≤ 1048586 := by rw [← H.out.z1]; exact cmd_le _ (cost_sub_take L k HL.out)
      have hz2 : h2 + br ≤ 1048586 := by rw [← H.out.z2]; exact cmd_le _ (cost_sub_drop L k HL.out)
      clear hm hmm hneg hbig hk hlt
      go_wp2_with (go_at_call 25; refine (outCommand L ao n c (h0 + bl + br) _ hA HL.out htab H.out.z0).mono ?_; rintro e w1 ⟨g1, rfl, u1⟩; refine Hid.out ?_)
      refine Lib.hid ?_
      have tab1 : Tab w1 := htab.kept (u1.below.block 1 htab.lt)
      have hs1 := u1.below.size
      have A1 : Args (fun i => i < w1.heap.size) (L.take k) ao k c w1 := args_old hAlo u1.below (fun i hi => by omega)
      have A2 : Args (fun i => i < w1.heap.size) (L.drop k) ao2 m (c - k) w1 := args_old hAhi u1.below (fun i hi => by omega)
      have d1 := u1.rd
      have l1 := u1.hi
      have B1 := u1.below
      clear u1 hAlo hAhi hs1
      go_wp2_with (go_at_call 25; refine (outCommand (L.take k) ao k c (h1 + bl) _ A1 (cost_sub_take L k HL.out) tab1 H.out.z1).mono ?_; rintro e w2 ⟨g2, rfl, u2⟩; refine Hid.out ?_)
      refine Lib.hid ?_
      have tab2 : Tab w2 := tab1.kept (u2.below.block 1 tab1.lt)
      have hs2 := u2.below.size
      have A3 : Args (fun i => i < w2.heap.size) (L.drop k) ao2 m (c - k) w2 := args_old A2 u2.below (fun i hi => by omega)
      have d2 := u2.rd
      have l2 := u2.hi
      have B2 := B1.trans (u2.below.mono B1.size)
      obtain ⟨d1, l1⟩ := rd_next d1 l1 u2.below
      clear u2 A1 A2 tab1 hs2 B1
      go_wp2_with (go_at_call 25; refine (outCommand (L.drop k) ao2 m (c - k) (h2 + br) _ A3 (cost_sub_drop L k HL.out) tab2 H.out.z2).mono ?_; rintro e w3 ⟨g3, rfl, u3⟩; refine Hid.out ?_)
      refine Lib.hid ?_
      have tab3 : Tab w3 := tab2.kept (u3.below.block 1 tab2.lt)
      have d3 := u3.rd
      have l3 := u3.hi
      have B3 := B2.trans (u3.below.mono B2.size)
      obtain ⟨d1, l1⟩ := rd_next d1 l1 u3.below
      obtain ⟨d2, l2⟩ := rd_next d2 l2 u3.below
      clear u3 A3 tab2 B2
      go_wp2_with (go_at_call 21; refine (outArray n (by omega) h0 _ tab3 H.out.h0).mono ?_; rintro e w4 ⟨g4, rfl, u4⟩; refine Hid.out ?_)
      refine Lib.hid ?_
      have tab4 : Tab w4 := tab3.kept (u4.below.block 1 tab3.lt)
      have d4 := u4.rd
      have l4 := u4.hi
      have B4 := B3.trans (u4.below.mono B3.size)
      obtain ⟨d1, l1⟩ := rd_next d1 l1 u4.below
      obtain ⟨d2, l2⟩ := rd_next d2 l2 u4.below
      obtain ⟨d3, l3⟩ := rd_next d3 l3 u4.below
      clear u4 tab3 B3
      go_wp2_with (go_at_call 21; refine (outArray k (by omega) h1 _ tab4 H.out.h1).mono ?_; rintro e w5 ⟨g5, rfl, u5⟩; refine Hid.out ?_)
      refine Lib.hid ?_
      have tab5 : Tab w5 := tab4.kept (u5.below.block 1 tab4.lt)
      have d5 := u5.rd
      have l5 := u5.hi
      have B5 := B4.trans (u5.below.mono B4.size)
      obtain ⟨d1, l1⟩ := rd_next d1 l1 u5.below
      obtain ⟨d2, l2⟩ := rd_next d2 l2 u5.below
      obtain ⟨d3, l3⟩ := rd_next d3 l3 u5.below
      obtain ⟨d4, l4⟩ := rd_next d4 l4 u5.below
      clear u5 tab4 B4
      go_wp2_with (go_at_call 21; refine (outArray m (by omega) h2 _ tab5 H.out.h2).mono ?_; rintro e w6 ⟨g6, rfl, u6⟩; refine Hid.out ?_)
      refine Lib.hid ?_
      have d6 := u6.rd
      have l6 := u6.hi
      have B6 := B5.trans (u6.below.mono B5.size)
      obtain ⟨d1, l1⟩ := rd_next d1 l1 u6.below
      obtain ⟨d2, l2⟩ := rd_next d2 l2 u6.below
      obtain ⟨d3, l3⟩ := rd_next d3 l3 u6.below
      obtain ⟨d4, l4⟩ := rd_next d4 l4 u6.below
      obtain ⟨d5, l5⟩ := rd_next d5 l5 u6.below
      clear u6 tab5 B5 hsub slo shi t1 t2
      go_wp2_with (go_at_call 22; refine (isLine2 g4 0 _ n h0 _ d4 H.out.h0 (by omega) (Nat.le_refl _) (by omega)).mono ?_; rintro e w7 ⟨rfl, hw7⟩; refine Hid.out ?_)
      refine Lib.hid ?_
      replace hw7 := hw7.symm
      subst hw7
      rw [H.out.e0] at d1
      rw [H.out.e1] at d2
      rw [H.out.e2] at d3
      have y0 : Hid ((hline 42 (n : Int) ++ (body (L.take k) ++ body (L.drop k))).length = h0 + bl + br) := by rw [← H.out.e0]; exact H.out.z0
      have y1 : Hid ((hline 42 (k : Int) ++ body (L.take k)).length = h1 + bl) := by rw [← H.out.e1]; exact H.out.z1
      have y2 : Hid ((hline 42 (m : Int) ++ body (L.drop k)).length = h2 + br) := by rw [← H.out.e2]; exact H.out.z2
      go_wp2_with (go_at_call 18; refine (hasP _ _ _ _ y0.out H.out.h0 g1 0 _ g4 0 _ _ d1 d4 (by omega)).mono ?_; rintro e w7 ⟨rfl, q7⟩; refine Hid.out ?_)
      refine Lib.hid ?_
      go_wp2_with (go_at_call 18; refine (hasP _ _ _ _ y1.out H.out.h1 g2 0 _ g5 0 _ _ (d2.hush q7) (d5.hush q7) (by omega)).mono ?_; rintro e w8 ⟨rfl, q8⟩; refine Hid.out ?_)
      refine Lib.hid ?_
      replace q8 := q7.trans q8
      go_wp2_with (go_at_call 18; refine (hasP _ _ _ _ y2.out H.out.h2 g3 0 _ g6 0 _ _ (d3.hush q8) (d6.hush q8) (by omega)).mono ?_; rintro e w9 ⟨rfl, q9⟩; refine Hid.out ?_)
      refine Lib.hid ?_
      replace q9 := q8.trans q9
      obtain ⟨o2, c2, sl2, ho2⟩ := slice_from g2 h1 bl (h1 + bl) (Nat.le_refl _) (by omega)
      obtain ⟨o3, c3, sl3, ho3⟩ := slice_from g3 h2 br (h2 + br) (Nat.le_refl _) (by omega)
      obtain ⟨o4, c4, sl4, ho4⟩ := slice_mid g1 h0 bl (h0 + bl + br) (h0 + bl + br) (by omega) (Nat.le_refl _) (by omega)
      obtain ⟨o5, c5, sl5, ho5⟩ := slice_from g1 (h0 + bl) br (h0 + bl + br) (Nat.le_refl _) (by omega)
      simp only [Int.natCast_add] at sl5
      have f2 : Rd (body (L.take k)) g2 o2 w9 := (rd_tail d2 H.out.h1 (by rw [H.out.bl]; exact ho2)).hush q9
      have f3 : Rd (body (L.drop k)) g3 o3 w9 := (rd_tail d3 H.out.h2 (by rw [H.out.br]; exact ho3)).hush q9
      have f4 : Rd (body (L.take k)) g1 o4 w9 := by
        rw [← List.append_assoc] at d1
        have := d1.take (hline 42 (n : Int) ++ body (L.take k)).length
        rw [List.take_left' rfl] at this
        exact (rd_tail this H.out.h0 (by rw [H.out.bl]; exact ho4)).hush q9
      have f5 : Rd (body (L.drop k)) g1 o5 w9 := by
        rw [← List.append_assoc] at d1
        exact (rd_tail d1 (by rw [List.length_append, H.out.h0, H.out.bl]) (by rw [H.out.br]; exact ho5)).hush q9
      have B9 := B6.trans (q9.below w.heap.size)
      clear ho2 ho3 ho4 ho5 d1 d2 d3 d4 d5 d6 l1 l2 l3 l4 l5 l6 y0 y1 y2 q7 q8 q9 B6
      go_wp2_with (go_at_call 19; refine (eqB2 (body (L.take k)) bl bl H.out.bl H.out.bl g1 o4 _ g2 o2 _ _ f4 f2 (by omega)).mono ?_; rintro e w10 ⟨rfl, q10⟩; refine Hid.out ?_)
      refine Lib.hid ?_
      go_wp2_with (go_at_call 19; refine (eqB2 (body (L.drop k)) br br H.out.br H.out.br g1 o5 _ g3 o3 _ _ (f5.hush q10) (f3.hush q10) (by omega)).mono ?_; rintro e w11 ⟨rfl, q11⟩; refine Hid.out ?_)
      refine Lib.hid ?_
      have B11 := B9.trans ((q10.trans q11).below w.heap.size)
      clear f2 f3 f4 f5 q10 q11 B9 sl2 sl3 sl4 sl5
      have HP0 : Hid (h0 = pos L 0) := by show _ = _; rw [pos_zero, H.out.len, ← H.out.h0, hline_length, nat_itoa_len]; omega
      go_wp2
      go_loopw [21, 22] (fun t i wr => ∃ j x : Nat, j ≤ n ∧ i = .int .i64 j ∧ t = .int .i64 x ∧ Hid (x = pos L j) ∧ x ≤ 1048586 ∧ Below w.heap.size w wr) (fun _ i _ => n - (intOf i).toNat)
      case atStart => exact ⟨0, h0, Nat.zero_le _, rfl, rfl, HP0, by omega, B11⟩
      case round =>
        obtain ⟨j, x, hj, rfl, rfl, Hx, hx, hbw⟩ := hrel
        clear B11
        by_cases hlt : j < n
        · obtain ⟨g, o, rfl, pg, hc⟩ := hA.at_ (by omega)
          have c1 := (hbw.cell (p := ⟨g, o + j, none⟩) pg).trans (hc j hlt)
          have hsz := Hsm.out j hlt
          obtain ⟨a, ha⟩ : ∃ a, L.getD j ByteArray.empty = a := ⟨_, rfl⟩
          rw [ha] at c1 hsz
          have hps := pos_succ L j (by rw [Hlen.out]; exact hlt) a ha
          obtain ⟨nd, hnd⟩ : ∃ nd, Lib.nDigits a.size = nd := ⟨_, rfl⟩
          rw [hnd, ← Hx.out] at hps
          have hpl : pos L (j + 1) ≤ 1048586 := by
            have := (bulkAt_cmd L j (by rw [Hlen.out]; exact hlt) a ha _ rfl).le
            rw [H.out.z0, ← Hx.out, hnd] at this
            omega
          have Hps := Lib.hid hps
          have Hpl := Lib.hid hpl
          have Hnd := Lib.hid hnd
          have hxb : x + 1 + nd + 2 + a.size + 2 ≤ 1048586 := by omega
          have b0 : (0 : Int) ≤ j := by omega
          have b1 : (j : Int) < n := by omega
          have hgw : g < wr.heap.size := Nat.lt_of_lt_of_le pg hbw.size
          clear ha hc hps hpl hnd
          go_wp2
          go_region_held3 (fun w' => w'.cell? ⟨g, o + j, none⟩ = some (.string a)) (go_keep) ((
            go_at_call 26
            refine (decimal2 a.size nd Hnd.out hsz _).mono ?_
            rintro e w12 ⟨gd, capd, rfl, hb12⟩
            have q0 : w12.cell? ⟨g, o + j, none⟩ = some (.string a) := (hb12.cell (p := ⟨g, o + j, none⟩) hgw).trans c1))
          go_wp2
          go_roundw
          case rel =>
            refine ⟨j + 1, x + 1 + nd + 2 + a.size + 2, by omega, by go_num, ?_, Lib.hid (by rw [Hps.out]), hxb, ?_⟩
            · rw [IntWalk.i64_in (1 + (nd : Int)) (by omega), IntWalk.i64_in (1 + (nd : Int) + 2) (by omega), IntWalk.i64_in (1 + (nd : Int) + 2 + a.size) (by omega), IntWalk.i64_in (1 + (nd : Int) + 2 + a.size + 2) (by omega), IntWalk.i64_in _ (by omega)]
              go_num
            exact (hbw.trans (((Hush.refl wr).drewN _).below _)).trans (hb12.mono hbw.size)
          case measure => simp [intOf]; omega
        · have hjn : j = n := by omega
          have hxe : x = h0 + bl + br := by rw [Hx.out, hjn, ← H.out.z0, ← pos_full, Hlen.out]
          subst hxe
          go_wp2
          go_ret
          exact ⟨rfl, hbw⟩

end Go.Proofs.Qxb6616850aDoor
