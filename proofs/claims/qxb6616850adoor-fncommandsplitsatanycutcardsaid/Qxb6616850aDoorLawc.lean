/-
  FnCommandIsArrayOfBulksAndDecodesBack, walked.
-/
import Derived.Test.Qxb6616850aDoorOutc
import Derived.Test.Qxb6616850aDoorDcd
import Derived.Test.Qxb6616850aDoorByt
namespace Go.Proofs.Qxb6616850aDoor
open Go.RowKit

theorem cost_take_succ (L : List ByteArray) (k : Nat) (h : k < L.length) : cost (L.take (k + 1)) = cost (L.take k) + (16 + (L.getD k ByteArray.empty).size) := by
  unfold cost
  rw [List.take_succ_eq_append_getElem h, getD_eq h]
  simp only [List.map_append, List.sum_append, List.map_cons, List.map_nil, List.sum_cons, List.sum_nil, Nat.add_zero]
theorem cost_take_zero (L : List ByteArray) : cost (L.take 0) = 0 := by simp [cost]
theorem cost_take_full (L : List ByteArray) : cost (L.take L.length) = cost L := by rw [List.take_of_length_le (Nat.le_refl _)]

/-- The world behind '[]byte(a)'. -/
theorem conv_bytes (a : ByteArray) (W : World) : (convert 9 23 (.string a)).run Tryd.prog W = .ok (.slice (some ⟨W.heap.size, 0, none⟩) a.size (grownCap W a.size 0 5)) (Lib.bytesWorld W 5 a) :=
  Lib.run_convert_string_bytes W 9 23 5 a Tryd.underlying9 Tryd.underlying23 Tryd.underlying5
theorem conv_rd (a : ByteArray) (W : World) : Rd a.data.toList W.heap.size 0 (Lib.bytesWorld W 5 a) := fun j hj => by
  rw [Nat.zero_add]
  exact Lib.bytesWorld_cell W 5 a j (by rw [Lib.size_eq]; exact hj)
theorem conv_below (a : ByteArray) (W : World) : Below W.heap.size W (Lib.bytesWorld W 5 a) :=
  ⟨rfl, rfl, rfl, by rw [Lib.bytesWorld_size]; omega, fun k hk => Lib.bytesWorld_at_old W 5 a k hk⟩

theorem args_old {Pt : Nat → Prop} {L : List ByteArray} {ao : Option Addr} {n c : Nat} {w w' : World} (h : Args (fun k => k < w.heap.size) L ao n c w) (hb : Below w.heap.size w w') (hP : ∀ k, k < w.heap.size → Pt k) : Args Pt L ao n c w' :=
  (h.kept ((Kept.refl _ w).below (fun _ hk => hk) hb)).mono hP

/-- The writer behind a conversion: the new row may be protected. -/
theorem conv_rw {s b r q : Nat} {sv : Value} {out pend : List UInt8} {Pt : Nat → Prop} {W : World} (a : ByteArray) (hr : Rw Pt s b r q sv out pend W) : Rw (fun k => Pt k ∨ k = W.heap.size) s b r q sv out pend (Lib.bytesWorld W 5 a) := by
  have h := conv_below a W
  refine hr.wide (fun k hk => h.block k hk) h.size (fun k hk => ?_) (fun k hk => ?_)
  · rcases hk with hk | rfl
    · exact .inl hk
    · exact .inr (Nat.le_refl _)
  · have := Lib.bytesWorld_size W 5 a
    rcases hk with hk | rfl
    · have := hr.inn k hk; omega
    · omega

theorem rw_less {s b r q : Nat} {sv : Value} {out pend : List UInt8} {Pt Qt : Nat → Prop} {W : World} (hr : Rw Pt s b r q sv out pend W) (h : ∀ k, Qt k → Pt k) : Rw Qt s b r q sv out pend W :=
  hr.wide (fun _ _ => rfl) (Nat.le_refl _) (fun k hk => .inl (h k hk)) (fun k hk => hr.inn k (h k hk))

set_option maxHeartbeats 3200000 in
set_option maxRecDepth 100000 in
theorem lawc (L : List ByteArray) (ao : Option Addr) (n c : Nat) (w : World) (hA : Args (fun k => k < w.heap.size) L ao n c w) (hbig : ∀ k, (L.getD k ByteArray.empty).size ≤ maxLen) (htab : Tab w) :
    Calls Tryd.prog 7 #[.slice ao n c] w fun e w' => e = .returned (.bool true) ∧ Below w.heap.size w w' := by
  have hnc := hA.le
  have hcm := hA.max
  have Hlen := Lib.hid hA.len
  go_enter Tryd.func7, Tryd.ntmps7
  go_wp2_with (go_at_call 27; refine (bytes27 _ L ao n c _ hA hbig).mono ?_; rintro e w1 ⟨b, rfl, hw1, hsm⟩; refine Hid.out ?_)
  refine Lib.hid ?_
  replace hw1 := hw1.symm
  subst hw1
  cases b
  · go_wp2
    go_ret
    exact ⟨rfl, Below.refl _ _⟩
  have Hsm := Lib.hid (hsm rfl)
  clear hsm hbig
  go_wp2
  go_loopw [3, 4] (fun t i wr => ∃ k x : Nat, k ≤ n ∧ i = .int .i64 k ∧ t = .int .i64 x ∧ Hid (x = cost (L.take k)) ∧ x ≤ 1048576 ∧ wr = w) (fun _ i _ => n - (intOf i).toNat)
  case atStart => exact ⟨0, 0, Nat.zero_le _, rfl, rfl, Lib.hid (cost_take_zero L).symm, by omega, rfl⟩
  case round =>
    obtain ⟨k, x, hk, rfl, rfl, Hx, hx, hwr⟩ := hrel
    replace hwr := hwr.symm
    subst hwr
    by_cases hlt : k < n
    · obtain ⟨g, o, rfl, pg, hc⟩ := hA.at_ (by omega)
      have c1 := hc k hlt
      have hb := Hsm.out k hlt
      have hst := cost_take_succ L k (by rw [Hlen.out]; exact hlt)
      obtain ⟨a, ha⟩ : ∃ a, L.getD k ByteArray.empty = a := ⟨_, rfl⟩
      rw [ha] at c1 hb hst
      have Hst := Lib.hid hst
      have b0 : (0 : Int) ≤ k := by omega
      have b1 : (k : Int) < n := by omega
      clear ha hc hA hst
      by_cases h2 : x + (16 + a.size) ≤ 1048576
      · have t2 : decide ((1048576 : Int) < x + (16 + a.size)) = false := by simp; omega
        go_wp2
        go_roundw
        case rel => exact ⟨k + 1, x + (16 + a.size), by omega, by go_num, by go_num, Lib.hid (by rw [Hst.out, ← Hx.out]), h2, by trivial⟩
        case measure => simp [intOf]; omega
      · have t2 : decide ((1048576 : Int) < x + (16 + a.size)) = true := by simp; omega
        go_wp2
        go_ret
        exact ⟨rfl, Below.refl _ _⟩
    · have hkn : k = n := by omega
      subst hkn
      have hL : cost L ≤ 1048576 := by rw [← cost_take_full, Hlen.out, ← Hx.out]; exact hx
      have hn16 : 16 * k ≤ 1048576 := by have := cost_len L; have := Hlen.out; omega
      clear Hx hx
      obtain ⟨z, hz⟩ : ∃ z, (cmd L).length = z := ⟨_, rfl⟩
      have Hz := Lib.hid hz
      have hz2 : z ≤ 1048586 := by rw [← hz]; exact cmd_le L hL
      have HL := Lib.hid hL
      clear hz hL
      go_wp2_with (go_at_call 25; refine (outCommand L ao k c z _ hA HL.out htab Hz.out).mono ?_; rintro e w1 ⟨g1, rfl, h1⟩; refine Hid.out ?_)
      refine Lib.hid ?_
      obtain ⟨B1, hB1⟩ : ∃ B1, B1 = w1.heap.size := ⟨_, rfl⟩
      have hBB : w.heap.size ≤ B1 := by rw [hB1]; exact h1.below.size
      have hA1 : Args (fun i => i < B1) L ao k c w1 := args_old hA h1.below (fun i hi => by omega)
      have h1w : 1 < w.heap.size := htab.lt
      have tab1 : Tab w1 := htab.kept (h1.below.block 1 h1w)
      have h1B : 1 < B1 := by omega
      have hg1 : g1 < B1 := by rw [hB1]; exact h1.hi
      have HB1 := Lib.hid hB1
      have rd1 := h1.rd
      have bl1 := h1.below
      have hit : Hid ((hline 42 (k : Int)).length ≤ 10) := by show _ ≤ _; have := itoa_nat_len k (by omega); rw [hline_length]; omega
      have Hbk := Lib.hid (fun i => bulksTo_le L i HL.out)
      clear hB1 hA h1 htab
      go_wp2_with (go_at_call 12; refine (newSink _).mono ?_; rintro e w2 ⟨rfl, h2⟩; refine Hid.out ?_)
      refine Lib.hid ?_
      rw [← HB1.out]
      go_wp2_with (go_at_call 13; refine (newWriter B1 _).mono ?_; rintro e w3 ⟨rfl, M, hM, h3⟩; refine Hid.out ?_)
      refine Lib.hid ?_
      obtain ⟨r3, k3⟩ := rw_new HB1.out hM h2.out h3.out (fun i => i < B1) (fun i hi => by rw [← HB1.out]; exact hi)
      have z2 : w2.heap.size + 2 = B1 + 3 := by rw [h2.out, HB1.out]; simp
      rw [z2]
      clear h2 h3 hM z2 M
      have tab3 : Tab w3 := tab1.kept (k3.block 1 h1B)
      go_wp2_with (go_at_call 28; refine (array (fun i => i < B1) B1 _ _ _ _ [] [] k (by omega) (by omega) _ r3 tab3 h1B (by simp)).mono ?_; rintro e w4 ⟨rfl, sv4, o4, p4, r4, l4, z4, k4⟩; refine Hid.out ?_)
      refine Lib.hid ?_
      have e4 : o4 ++ p4 = hline 42 (k : Int) := by simpa using l4
      have E4 := Lib.hid e4
      have K4 := k3.trans k4
      clear l4 z4 e4 r3 tab3 k3 k4
      go_wp2
      go_loopw [9] (fun i wr => ∃ m : Nat, m ≤ k ∧ i = .int .i64 m ∧ ∃ sv2 o2 p2, Rw (fun i => i < B1) B1 (B1 + 2) (B1 + 1) (B1 + 3) sv2 o2 p2 wr ∧ Hid (o2 ++ p2 = hline 42 (k : Int) ++ bulksTo L m) ∧ Kept (fun i => i < B1) w1 wr) (fun i _ => k - (intOf i).toNat)
      case atStart => exact ⟨0, Nat.zero_le _, rfl, sv4, o4, p4, r4, Lib.hid (by rw [bulksTo_zero, List.append_nil]; exact E4.out), K4⟩
      case round =>
        obtain ⟨m, hm, rfl, sv5, o5, p5, r5, L5, k5⟩ := hrel
        clear r4 K4 E4
        have n5 : Hid (o5.length + p5.length ≤ 2097162) := by
          have := congrArg List.length L5.out
          simp only [List.length_append] at this
          have := Hbk.out m
          have := hit.out
          show _ ≤ _
          omega
        by_cases hlt : m < k
        · obtain ⟨g, o, rfl, pg, hc⟩ := hA1.at_ (by omega)
          have c1 := (k5.cell (p := ⟨g, o + m, none⟩) pg).trans (hc m hlt)
          have hsz := Hsm.out m hlt
          have hst := bulksTo_succ L m (by rw [Hlen.out]; exact hlt)
          obtain ⟨a, ha⟩ : ∃ a, L.getD m ByteArray.empty = a := ⟨_, rfl⟩
          rw [ha] at c1 hsz hst
          have Hst := Lib.hid hst
          clear hst ha hc
          have b0 : (0 : Int) ≤ m := by omega
          have b1 : (m : Int) < k := by omega
          have hcv := conv_bytes a wr
          have r6 := conv_rw a r5
          have d6 := conv_rd a wr
          have K6 : Kept (fun i => i < B1) w1 (Lib.bytesWorld wr 5 a) := k5.trans ((Kept.refl _ wr).below (fun i hi => r5.inn i hi) (conv_below a wr))
          have g6 := grownCap_ge wr a.size 0 5
          have g7 := grownCap_le_maxLen wr a.size 0 5 (by unfold maxLen; omega)
          unfold maxLen at g7
          have tab6 : Tab (Lib.bytesWorld wr 5 a) := tab1.kept (K6.block 1 h1B)
          clear k5 r5
          go_wp2_with (go_at_call 29; refine (bulk29 (fun i => i < B1 ∨ i = wr.heap.size) _ _ _ _ _ o5 p5 a wr.heap.size _ _ r6 hsz (.inr rfl) d6 g6 (by omega) tab6 (.inl h1B) (by have := n5.out; omega)).mono ?_; rintro e w7 ⟨rfl, sv7, o7, p7, r7, l7, k7⟩; refine Hid.out ?_)
          refine Lib.hid ?_
          have L7 := Lib.hid l7
          have r8 := rw_less (Qt := fun i => i < B1) r7 (fun i hi => .inl hi)
          have K8 := K6.trans (k7.mono fun i hi => .inl hi)
          clear l7 r7 r6 d6 k7 K6 hcv g6 g7 tab6 c1
          go_wp2
          go_roundw
          case rel =>
            refine ⟨m + 1, by omega, by go_num, sv7, o7, p7, r8, Lib.hid ?_, K8⟩
            rw [L7.out, L5.out, Hst.out]
            simp
          case measure => simp [intOf]; omega
        · have hmk : m = k := by omega
          subst hmk
          have e5 : o5 ++ p5 = cmd L := by rw [L5.out, cmd, Hlen.out]
          have E5 := Lib.hid e5
          clear e5 L5
          go_wp2_with (go_at_call 15; refine (rflush _ _ _ _ _ _ o5 p5 _ r5 (by have := n5.out; omega)).mono ?_; rintro e w8 ⟨rfl, r8, k8⟩; refine Hid.out ?_)
          refine Lib.hid ?_
          rw [E5.out] at r8
          go_wp2_with (go_at_call 17; refine (sink17 _ _ _ _ _ _ _ _ _ r8).mono ?_; rintro e w9 ⟨v9, rfl, s9, r9, k9⟩; refine Hid.out ?_)
          refine Lib.hid ?_
          go_wp2_with (go_at_call 16; refine (copy16 (cmd L) v9 _ s9 z Hz.out (by omega)).mono ?_; rintro e w10 ⟨rfl, c10⟩; refine Hid.out ?_)
          refine Lib.hid ?_
          have K10 := ((k5.trans k8).trans k9).trans (c10.kept (Pt := fun i => i < B1) r9.inn)
          have d1 := rd1.kept (K10.block g1 hg1)
          have d2 := c10.rd
          have hA10 := hA1.kept K10
          have L10 := bl1.trans (K10.toBelow (B := w.heap.size) (fun i hi => by omega))
          clear k8 k9 r8 r9 s9 c10 K10 rd1 bl1 k5 r5 hA1 tab1
          generalize w9.heap.size = g2 at *
          go_wp2_with (go_at_call 19; refine (eqB2 (cmd L) z z Hz.out Hz.out g1 0 _ g2 0 _ _ d1 d2 (by omega)).mono ?_; rintro e w11 ⟨rfl, q11⟩; refine Hid.out ?_)
          refine Lib.hid ?_
          go_wp2_with (go_at_call 30; refine (decodes _ L ao m c g1 0 _ z _ (hA10.kept (q11.kept _)) HL.out (d1.hush q11) Hz.out).mono ?_; rintro e w12 ⟨rfl, q12⟩; refine Hid.out ?_)
          refine Lib.hid ?_
          go_wp2
          go_ret
          exact ⟨rfl, L10.trans ((q11.trans q12).below _)⟩

end Go.Proofs.Qxb6616850aDoor
