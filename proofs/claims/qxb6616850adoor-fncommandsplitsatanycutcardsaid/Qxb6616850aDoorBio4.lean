/-
  bufio.Writer over a bytes.Buffer, at this dump: Write.
-/
import Derived.Test.Qxb6616850aDoorBio3
import Derived.Test.Qxb6616850aDoorSl
namespace Go.Proofs.Qxb6616850aDoor
open Go.RowKit

/-- What the bytes' reading gives a copy. -/
theorem Rd.src {l : List UInt8} {g o : Nat} {w : World} (h : Rd l g o w) (k : Nat) : ∀ j v, (Lib.byteCells (l.take k))[j]? = some v → w.cell? ((⟨g, o, none⟩ : Addr).add j) = some v := by
  intro j v hj
  have hjl : j < (l.take k).length := by
    have h5 := (List.getElem?_eq_some_iff.1 hj).1
    rwa [Lib.byteCells_length] at h5
  have := (h.take k) j hjl
  rw [Lib.addr_add, this, ← hj]
  unfold Lib.byteCells byteAt
  rw [List.getElem?_map, List.getElem?_eq_getElem hjl, List.getD, List.getElem?_eq_getElem hjl]
  rfl

/-- 'copy(dst, p)', dst in row g from place o on, p the bytes l: as many bytes as dst has, or p. -/
theorem run_copy_sl (w : World) (g o dLen dCap k : Nat) (l : List UInt8) (n : Nat) (hn : l.length = n) (g2 o2 c2 : Nat) (cur : Array Value) (hg : w.heap[g]? = some (.cells cur 5 (0, 0))) (hr : Rd l g2 o2 w) (hk : k = Nat.min n dLen) (hfit : o + k ≤ cur.size) :
    (Builtin.copy_ #[23, 23] 3 #[.slice (some ⟨g, o, none⟩) dLen dCap, .slice (some ⟨g2, o2, none⟩) n c2]).run Tryd.prog w =
      .ok (goInt k) (w.setRow g (cur.toList.take o ++ Lib.byteCells (l.take k) ++ cur.toList.drop (o + k)).toArray) := by
  have hks : k ≤ n := by rw [hk]; exact Nat.min_le_left _ _
  have hlen : (Lib.byteCells (l.take k)).length = k := by rw [Lib.byteCells_length, List.length_take]; omega
  have h := run_copy_row (P := Tryd.prog) w 23 23 3 5 g o dLen dCap ⟨g2, o2, none⟩ n c2 cur 5 (Lib.byteCells (l.take k)) Tryd.underlying23 info5s hg (by rw [hlen]; exact hk) (hr.src k) (by rw [hlen]; exact hfit) (Lib.byteCells_one _)
  rw [hlen] at h
  exact h

/-- .. dst empty. -/
theorem run_copy_sl0 (w : World) (a : Addr) (dCap n : Nat) (a2 : Addr) (c2 : Nat) :
    (Builtin.copy_ #[23, 23] 3 #[.slice (some a) 0 dCap, .slice (some a2) n c2]).run Tryd.prog w = .ok (goInt 0) w :=
  run_copy_none (P := Tryd.prog) w 23 23 3 5 (some a) (some a2) 0 dCap n c2 Tryd.underlying23 info5s (Nat.min_eq_right (Nat.zero_le _))

/-- What holds of Write's slots and world at each round's head. -/
def WrRel (Pt : Nat → Prop) (k b r : Nat) (out pend : List UInt8) (s : List UInt8) (g : Nat) (w : World) (n : Nat) (sv nv : Value) (wr : World) : Prop :=
  ∃ (t o2 p2 : List UInt8) (m : Int) (tn o c : Nat), n = tn + p2.length ∧ sv = .slice (some ⟨g, o, none⟩) tn c ∧ Hid (t.length = tn) ∧ tn ≤ c ∧ c ≤ 9223372036854775807 ∧ Rd t g o wr ∧ nv = .int .i64 m ∧ 0 ≤ m ∧ Hid (m + tn = s.length) ∧ Bw Pt k b r o2 p2 wr ∧ Hid (o2 ++ p2 ++ t = out ++ pend ++ s) ∧
    Kept Pt w wr ∧ Hid (pend.length + s.length ≤ 65536 → o2 = out ∧ p2.length + tn ≤ 65536)

set_option maxHeartbeats 1600000 in
set_option maxRecDepth 100000 in
theorem bwrite (Pt : Nat → Prop) (k b r : Nat) (out pend : List UInt8) (s : List UInt8) (g o c sn : Nat) (hsn : s.length = sn) (w : World) (h : Bw Pt k b r out pend w) (hg : Pt g) (hr : Rd s g o w) (hsc : sn ≤ c) (hcm : c ≤ 9223372036854775807) (hlim : out.length + pend.length + sn ≤ 140737488355328) :
    Calls Tryd.prog 41 #[.pointer (some ⟨b, 0, none⟩), .slice (some ⟨g, o, none⟩) sn c] w fun e w' => e = .returned (.tuple #[.int .i64 sn, .nilIface]) ∧
      ∃ o2 p2, Bw Pt k b r o2 p2 w' ∧ o2 ++ p2 = out ++ pend ++ s ∧ (pend.length + sn ≤ 65536 → o2 = out) ∧ Kept Pt w w' := by
  have Hsn := Lib.hid hsn
  clear hsn
  go_enter Tryd.func41, Tryd.ntmps41
  go_wp2
  go_loopg [1, 4] (sn + pend.length) (fun n sv nv wr => WrRel Pt k b r out pend s g w n sv nv wr)
  case atStart => exact ⟨s, out, pend, 0, sn, o, c, rfl, rfl, Hsn, hsc, hcm, hr, rfl, Int.le_refl _, Lib.hid (by rw [Hsn.out]; simp), h, Lib.hid rfl, Kept.refl _ _, Lib.hid (fun hq => ⟨rfl, by rw [Hsn.out] at hq; exact hq⟩)⟩
  case round =>
    obtain ⟨t, o2, p2, m, tn, o', c', hn, rfl, Htn, htc, hcm', hrd, rfl, hm0, HM, hB, HC, hK, HS⟩ := hrel
    have Htot : Hid (o2.length + p2.length + tn = out.length + pend.length + sn) := by
      have := congrArg List.length HC.out
      simp only [List.length_append, Htn.out, Hsn.out] at this
      exact this
    have hmb : m + tn ≤ 140737488355328 := by have := HM.out; have := Hsn.out; omega
    have hsr : k ≠ g := fun e => hB.bf.1 (.inl (by rw [e]; exact hg))
    have hrr : r ≠ g := fun e => hB.pr (e ▸ hg)
    by_cases hgt : avl p2 < (tn : Int)
    · have hle := hB.le
      have ht1 : 65536 - p2.length < tn := by unfold avl at hgt; omega
      by_cases hp : p2.length = 0
      · have hp2 : p2 = [] := List.eq_nil_of_length_eq_zero hp
        subst hp2
        have hmw := method_write ⟨k, 0, none⟩
        go_wp2_with (go_at_call 44; refine (available Pt k b r o2 [] _ hB).mono ?_; rintro e w1 ⟨rfl, h1, hK1⟩; refine Hid.out ?_)
        refine Lib.hid ?_
        have rd1 := hrd.kept (hK1.block g hg)
        have c0 := h1.c0
        have c3 := h1.c3
        have f0 := h1.f 0
        have Hb := Lib.hid (buffered Pt k b r o2 [] _ h1)
        go_wp2_with (go_at_call 45; refine Hb.out.mono ?_; rintro e w2 ⟨rfl, rfl⟩)
        clear Hb
        have hsrc := rd1.src tn
        rw [List.take_of_length_le (by rw [Htn.out]; exact Nat.le_refl _)] at hsrc
        have hbw := buf_write (And2 Pt b r) k o2 t ⟨g, o', none⟩ c' w2 h1.bf h1.inn2 (Ne.symm hsr) hsrc (by rw [Htn.out]; omega) (by have := Htot.out; rw [Htn.out]; omega)
        rw [Htn.out] at hbw
        refine hbw.mono ?_
        rintro e w3 ⟨rfl, hF, hK3⟩
        have h3 := h1.sunk hF hK3
        have hK4 := (hK.trans hK1).trans (hK3.mono fun i hi => .inl hi)
        have hE := h3.setErr
        have e0 := h3.c0
        have g0 := h3.f 0
        have HE := Lib.hid hE
        clear c0 c3 f0 h1 hF hK3 hE hbw hsrc rd1
        go_wp2
        all_goals (
          go_roundg 0
          case measure => omega
          case rel =>
            refine ⟨[], o2 ++ t, [], m + tn, 0, _, _, rfl, rfl, Lib.hid rfl, Nat.zero_le _, by omega, fun j hj => absurd hj (by simp), rfl, by omega, Lib.hid (by have := HM.out; simp; omega), HE.out, Lib.hid (by have := HC.out; simpa using this), hK4.setCell (p := ⟨b, 0, none⟩) h3.pb _, Lib.hid ?_⟩
            intro hq
            have := (HS.out hq).2
            simp at this
            omega)
      · have hp' : ((p2.length : Int) == 0) = false := beq_eq_false_iff_ne.2 (by omega)
        go_wp2_with (go_at_call 44; refine (available Pt k b r o2 p2 _ hB).mono ?_; rintro e w1 ⟨rfl, h1, hK1⟩; refine Hid.out ?_)
        refine Lib.hid ?_
        have rd1 := hrd.kept (hK1.block g hg)
        have c0 := h1.c0
        have Hb := Lib.hid (buffered Pt k b r o2 p2 _ h1)
        go_wp2_with (go_at_call 45; refine Hb.out.mono ?_; rintro e w2 ⟨rfl, rfl⟩)
        clear Hb c0
        have d1 := h1.c1
        have d2 := h1.c2
        have f2 := h1.f 2
        have hrb := h1.rb
        obtain ⟨cur, hrow, hcs, hct⟩ := h1.row
        have Hct := Lib.hid hct
        have Hcs := Lib.hid hcs
        clear hct hcs hgt
        have hi1 : (p2.length : Int) ≤ 65536 := by omega
        have hKw := hK.trans hK1
        by_cases hfull : p2.length = 65536
        · have hcp := run_copy_sl0 w2.drew ⟨r, 0, none⟩ 0 tn ⟨g, o', none⟩ c'
          have hB2 := (h1.setN h1.le ⟨cur, hrow, Hcs.out, Hct.out⟩).drew
          rw [hfull] at hB2 d2
          have HB2 := Lib.hid hB2
          have Hfu := Lib.hid hfull
          have hK3 := (hKw.setCell (p := ⟨b, 2, none⟩) h1.pb (.int .i64 65536)).drew
          have hc0 : ¬ c' = 0 := by omega
          clear hB2 hfull hp'
          go_region_held3 (fun w' => w'.cell? ⟨b, 1, none⟩ = some (.slice (some ⟨r, 0, none⟩) 65536 65536) ∧ w'.cell? ⟨b, 2, none⟩ = some (.int .i64 65536)) (go_keep) (fail)
          go_wp2_with fail
          refine (flush Pt k b r o2 p2 _ HB2.out (by have := Htot.out; omega)).mono ?_
          rintro e w5 ⟨rfl, h5, hK5⟩
          have hK6 := hK3.trans hK5
          have rd5 := rd1.kept ((((Kept.refl Pt w2).setCell (p := ⟨b, 2, none⟩) h1.pb (.int .i64 65536)).drew.trans hK5).block g hg)
          clear hcp hK3 hK5
          go_wp2
          go_roundg tn
          case measure => have := Hfu.out; omega
          case rel =>
            refine ⟨t, o2 ++ p2, [], m, tn, _, _, rfl, rfl, Htn, by omega, by omega, rd5, rfl, hm0, HM, h5, Lib.hid (by rw [List.append_nil]; exact HC.out), hK6, Lib.hid ?_⟩
            intro hq
            have := (HS.out hq).2
            have := Hfu.out
            omega
        · obtain ⟨j, hj⟩ : ∃ j, p2.length + j = 65536 := ⟨65536 - p2.length, by omega⟩
          have rd1d : Rd t g o' w2.drew := rd1
          have hcp := run_copy_sl w2.drew r p2.length (65536 - p2.length) (65536 - p2.length) j t tn Htn.out g o' c' cur hrow rd1d (by show j = min tn (65536 - p2.length); omega) (by rw [Hcs.out]; omega)
          have hset : ∀ arr i, (w2.setRow r arr).cell? ⟨b, i, none⟩ = w2.cell? ⟨b, i, none⟩ := fun arr i => World.cell?_of_block (setRow_other _ _ _ _ (Ne.symm hrb))
          have hsetf : ∀ arr i, (w2.setRow r arr).frozen? ⟨b, i, none⟩ = w2.frozen? ⟨b, i, none⟩ := fun arr i => World.frozen?_of_block (setRow_other _ _ _ _ (Ne.symm hrb))
          have hset2 : ∀ arr i, (w2.drew.setRow r arr).cell? ⟨b, i, none⟩ = w2.cell? ⟨b, i, none⟩ := fun arr i => World.cell?_of_block (setRow_other _ _ _ _ (Ne.symm hrb))
          have hsetf2 : ∀ arr i, (w2.drew.setRow r arr).frozen? ⟨b, i, none⟩ = w2.frozen? ⟨b, i, none⟩ := fun arr i => World.frozen?_of_block (setRow_other _ _ _ _ (Ne.symm hrb))
          have Hj := Lib.hid hj
          have hjt : (j : Int) ≤ tn := by omega
          have hjt' : j ≤ tn := by omega
          have hjc : ¬ c' = j := by omega
          have hlj : (List.take j t).length = j := by rw [List.length_take, Htn.out]; omega
          have hF := h1.drew.fill (cur := cur) (news := List.take j t) (n := j) Hcs.out Hct.out hlj (by omega)
          have hKs : Kept Pt w2 ((w2.drew.setRow r (cur.toList.take p2.length ++ (Lib.byteCells (List.take j t) ++ cur.toList.drop (p2.length + j))).toArray).setCell ⟨b, 2, none⟩ (.int .i64 (p2.length + j))) := ((Kept.refl Pt w2).drew.setRow h1.pr _).setCell (p := ⟨b, 2, none⟩) h1.pb _
          have hK3 := hKw.trans hKs
          have HF := Lib.hid hF
          have Hlj := Lib.hid hlj
          clear hj hF hlj hp'
          go_region_held3 (fun w' => w'.cell? ⟨b, 1, none⟩ = some (.slice (some ⟨r, 0, none⟩) 65536 65536) ∧ w'.cell? ⟨b, 2, none⟩ = some (.int .i64 p2.length)) (go_keep) (fail)
          go_wp2_with fail
          refine (flush Pt k b r o2 (p2 ++ List.take j t) _ HF.out (by have := Htot.out; have := Hlj.out; simp only [List.length_append]; omega)).mono ?_
          rintro e w5 ⟨rfl, h5, hK5⟩
          have hK6 := hK3.trans hK5
          have rd5 := rd1.kept ((hKs.trans hK5).block g hg)
          clear hset hsetf hset2 hsetf2 hcp hK3 hK5 hKs
          go_wp2
          go_roundg (tn - j)
          case measure => have := Hj.out; omega
          case rel =>
            refine ⟨t.drop j, o2 ++ (p2 ++ List.take j t), [], m + j, tn - j, _, _, rfl, rfl, Lib.hid (by rw [List.length_drop, Htn.out]), by omega, by omega, rd5.drop j, rfl, by omega, Lib.hid ?_, h5, Lib.hid ?_, hK6, Lib.hid ?_⟩
            · have := HM.out
              omega
            · rw [List.append_nil, ← List.append_assoc, List.append_assoc, List.take_append_drop]
              exact HC.out
            · intro hq
              have := (HS.out hq).2
              have := Hj.out
              omega
    · go_wp2_with (go_at_call 44; refine (available Pt k b r o2 p2 _ hB).mono ?_; rintro e w1 ⟨rfl, h1, hK1⟩; refine Hid.out ?_)
      refine Lib.hid ?_
      have rd1 := hrd.kept (hK1.block g hg)
      have c0 := h1.c0
      go_wp2
      clear c0
      have d1 := h1.c1
      have d2 := h1.c2
      have f2 := h1.f 2
      have hrb := h1.rb
      have hle := h1.le
      obtain ⟨cur, hrow, hcs, hct⟩ := h1.row
      have Hct := Lib.hid hct
      have Hcs := Lib.hid hcs
      clear hct hcs
      have hav : p2.length + tn ≤ 65536 := by unfold avl at hgt; omega
      clear hgt
      have hi1 : (p2.length : Int) ≤ 65536 := by omega
      by_cases hfull : p2.length = 65536
      · have ht0 : tn = 0 := by omega
        have hcp := run_copy_sl0 w1.drew ⟨r, 0, none⟩ 0 tn ⟨g, o', none⟩ c'
        have hB2 := (h1.setN h1.le ⟨cur, hrow, Hcs.out, Hct.out⟩).drew
        rw [hfull] at hB2
        have HB2 := Lib.hid hB2
        have Ht0 := Lib.hid ht0
        rw [hfull] at d2
        clear hB2 hfull ht0
        go_region_held3 (fun w' => w'.cell? ⟨b, 1, none⟩ = some (.slice (some ⟨r, 0, none⟩) 65536 65536) ∧ w'.cell? ⟨b, 2, none⟩ = some (.int .i64 65536)) (go_keep) (fail)
        go_wp2
        go_ret2
        have hm' : m = sn := by have := HM.out; have := Ht0.out; have := Hsn.out; omega
        have htl : t = [] := List.eq_nil_of_length_eq_zero (Htn.out.trans Ht0.out)
        refine ⟨ret_two hm', o2, p2, HB2.out, ?_, fun hq => (HS.out (by rw [Hsn.out]; exact hq)).1, ((hK.trans hK1).setCell (p := ⟨b, 2, none⟩) h1.pb _).drew⟩
        have := HC.out
        rw [htl, List.append_nil] at this
        exact this
      · have rd1d : Rd t g o' w1.drew := rd1
        have hcp := run_copy_sl w1.drew r p2.length (65536 - p2.length) (65536 - p2.length) tn t tn Htn.out g o' c' cur hrow rd1d (by show tn = min tn (65536 - p2.length); omega) (by rw [Hcs.out]; exact hav)
        have hset : ∀ arr i, (w1.setRow r arr).cell? ⟨b, i, none⟩ = w1.cell? ⟨b, i, none⟩ := fun arr i => World.cell?_of_block (setRow_other _ _ _ _ (Ne.symm hrb))
        have hsetf : ∀ arr i, (w1.setRow r arr).frozen? ⟨b, i, none⟩ = w1.frozen? ⟨b, i, none⟩ := fun arr i => World.frozen?_of_block (setRow_other _ _ _ _ (Ne.symm hrb))
        have hset2 : ∀ arr i, (w1.drew.setRow r arr).cell? ⟨b, i, none⟩ = w1.cell? ⟨b, i, none⟩ := fun arr i => World.cell?_of_block (setRow_other _ _ _ _ (Ne.symm hrb))
        have hsetf2 : ∀ arr i, (w1.drew.setRow r arr).frozen? ⟨b, i, none⟩ = w1.frozen? ⟨b, i, none⟩ := fun arr i => World.frozen?_of_block (setRow_other _ _ _ _ (Ne.symm hrb))
        go_region_held3 (fun w' => w'.cell? ⟨b, 1, none⟩ = some (.slice (some ⟨r, 0, none⟩) 65536 65536) ∧ w'.cell? ⟨b, 2, none⟩ = some (.int .i64 p2.length)) (go_keep) (fail)
        go_wp2
        go_ret2
        have hF := h1.drew.fill (cur := cur) (news := List.take tn t) (n := tn) Hcs.out Hct.out (by rw [List.length_take, Htn.out, Nat.min_self]) hav
        have hl : List.take tn t = t := List.take_of_length_le (by rw [Htn.out]; exact Nat.le_refl _)
        have hm' : m + tn = sn := by have := HM.out; have := Hsn.out; omega
        refine ⟨ret_two hm', o2, p2 ++ List.take tn t, hF, ?_, fun hq => (HS.out (by rw [Hsn.out]; exact hq)).1, ((hK.trans hK1).drew.setRow h1.pr _).setCell (p := ⟨b, 2, none⟩) h1.pb _⟩
        rw [hl, ← List.append_assoc]
        exact HC.out

end Go.Proofs.Qxb6616850aDoor
