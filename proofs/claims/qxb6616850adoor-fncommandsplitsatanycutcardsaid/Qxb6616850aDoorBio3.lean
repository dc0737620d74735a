/-
  bufio.Writer over a bytes.Buffer, at this dump: WriteString.
-/
import Derived.Test.Qxb6616850aDoorBio2
import Derived.Deep.LoopGhost
import Derived.Lib.IndexBytes
namespace Go.Proofs.Qxb6616850aDoor
open Go.RowKit

theorem info5s : (Tryd.prog.info? 5).map (·.size) = some 1 := by
  obtain ⟨i0, hi, -, hz1, -⟩ := info_parts Tryd.info5
  rw [hi]; simp [hz1]

/-- 'copy(dst, s)', s a string, dst in row g from place o on: as many bytes as dst has, or s. -/
theorem run_copy_str (w : World) (g o dLen dCap k : Nat) (s : ByteArray) (cur : Array Value) (hg : w.heap[g]? = some (.cells cur 5 (0, 0))) (hk : k = Nat.min s.size dLen) (hfit : o + k ≤ cur.size) :
    (Builtin.copy_ #[23, 9] 3 #[.slice (some ⟨g, o, none⟩) dLen dCap, .string s]).run Tryd.prog w =
      .ok (goInt k) (w.setRow g (cur.toList.take o ++ Lib.byteCells (s.data.toList.take k) ++ cur.toList.drop (o + k)).toArray) := by
  have hss : s.data.toList.length = s.size := (Lib.size_eq s).symm
  have hks : k ≤ s.size := by rw [hk]; exact Nat.min_le_left _ _
  have hlen : (Lib.byteCells (s.data.toList.take k)).length = k := by rw [Lib.byteCells_length, List.length_take]; omega
  have hst := run_storeCells_at Tryd.prog g o 5 (Lib.byteCells (s.data.toList.take k)) 0 cur w hg (by rw [hlen]; simpa using hfit) (Lib.byteCells_one _)
  have htk : List.take k (List.map (fun b : UInt8 => Value.int IntKind.u8 (b.toNat : Int)) s.data.toList) = Lib.byteCells (s.data.toList.take k) := by
    rw [← List.map_take]; rfl
  rw [hlen] at hst
  simp only [Nat.add_zero] at hst
  have hs := info5s
  cases hq : Tryd.prog.info? 5 with
  | none => simp [hq] at hs
  | some i =>
    simp [Builtin.copy_, run_underlying Tryd.underlying23, Builtin.lenOf, Builtin.firstCells, sizeOf, typeInfo, hq, ← hk]
    rw [htk, hst]
    simp [Result.andThen]

/-- .. dst empty, whatever its address. -/
theorem run_copy_str0 (w : World) (a : Addr) (dCap : Nat) (s : ByteArray) :
    (Builtin.copy_ #[23, 9] 3 #[.slice (some a) 0 dCap, .string s]).run Tryd.prog w = .ok (goInt 0) w := by
  have hs := info5s
  cases hq : Tryd.prog.info? 5 with
  | none => simp [hq] at hs
  | some i =>
    simp [Builtin.copy_, run_underlying Tryd.underlying23, Builtin.lenOf, Builtin.firstCells, sizeOf, typeInfo, hq, storeCells]

section
variable {Pt : Nat → Prop} {s b r : Nat} {out pend : List UInt8} {w w' : World}
theorem Bw.setErr (h : Bw Pt s b r out pend w) : Bw Pt s b r out pend (w.setCell ⟨b, 0, none⟩ .nilIface) := by
  obtain ⟨cur, hr, h3, h4⟩ := h.row
  refine ⟨h.bf.old fun k hk hp _ => ⟨Below.heap_setCell _ _ _ _ (fun e => hp (.inr (.inl e))), hp⟩, h.pb, h.pr, h.le, ?_, ⟨cur, ?_, h3, h4⟩, fun k hp => by simpa [World.setCell] using h.inn k hp⟩
  · rw [Lib.heap_setCell_same (i := 0) h.blk]; rfl
  · rw [Below.heap_setCell _ _ _ _ h.rb]; exact hr

/-- 'copy' into the row behind what waits, then 'b.n += k'. -/
theorem Bw.fill {news : List UInt8} {cur : Array Value} {n : Nat} (h : Bw Pt s b r out pend w) (hs : cur.size = 65536) (ht : cur.toList.take pend.length = Lib.byteCells pend) (hn : news.length = n) (hk : pend.length + n ≤ 65536) :
    Bw Pt s b r out (pend ++ news) ((w.setRow r (cur.toList.take pend.length ++ (Lib.byteCells news ++ cur.toList.drop (pend.length + n))).toArray).setCell ⟨b, 2, none⟩ (.int .i64 (pend.length + n))) := by
  subst hn
  rw [← List.append_assoc]
  have hl1 : (Lib.byteCells pend).length = pend.length := Lib.byteCells_length _
  have hl2 : (Lib.byteCells news).length = news.length := Lib.byteCells_length _
  have hl : (pend ++ news).length = pend.length + news.length := List.length_append
  have := h.setRow2 (p2 := pend ++ news) (arr := (cur.toList.take pend.length ++ Lib.byteCells news ++ cur.toList.drop (pend.length + news.length)).toArray) (by rw [hl]; exact hk)
    (by rw [ht]; simp only [List.size_toArray, List.length_append, hl1, hl2, List.length_drop, Array.length_toList]; omega)
    (by rw [ht, List.toList_toArray, hl, List.take_append_of_le_length (by rw [List.length_append, hl1, hl2]; exact Nat.le_refl _), List.take_of_length_le (by rw [List.length_append, hl1, hl2]; exact Nat.le_refl _), Lib.byteCells_append])
  rw [hl] at this
  simpa using this
end

theorem assert_sw (a : Addr) (w : World) : (Instr.typeAssert (.iface 26 (.pointer (some a))) 71 77 true).run Tryd.prog w = .ok (.tuple #[.iface 26 (.pointer (some a)), .bool true]) w := by kernel_rfl

theorem ret_two {a b : Int} (h : a = b) : Ending.returned (.tuple #[.int .i64 a, .nilIface]) = .returned (.tuple #[.int .i64 b, .nilIface]) := by rw [h]

/-- What holds of WriteString's slots and world at each round's head. -/
def WsRel (Pt : Nat → Prop) (k b r : Nat) (out pend : List UInt8) (s : ByteArray) (w : World) (n : Nat) (sv swv tv nv : Value) (wr : World) : Prop :=
  ∃ (t : ByteArray) (o2 p2 : List UInt8) (m : Int), n = t.size + p2.length ∧ sv = .string t ∧ nv = .int .i64 m ∧ 0 ≤ m ∧ Hid (m + t.size = s.size) ∧ Bw Pt k b r o2 p2 wr ∧ Hid (o2 ++ p2 ++ t.data.toList = out ++ pend ++ s.data.toList) ∧
    Kept Pt w wr ∧ Hid (pend.length + s.size ≤ 65536 → o2 = out ∧ p2.length + t.size ≤ 65536) ∧ (t.size = 0 ∨ (swv = .nilIface ∧ tv = .bool true))

set_option maxHeartbeats 1600000 in
set_option maxRecDepth 100000 in
theorem writeString (Pt : Nat → Prop) (k b r : Nat) (out pend : List UInt8) (s : ByteArray) (w : World) (h : Bw Pt k b r out pend w) (hlim : out.length + pend.length + s.size ≤ 140737488355328) :
    Calls Tryd.prog 36 #[.pointer (some ⟨b, 0, none⟩), .string s] w fun e w' => e = .returned (.tuple #[.int .i64 s.size, .nilIface]) ∧
      ∃ o2 p2, Bw Pt k b r o2 p2 w' ∧ o2 ++ p2 = out ++ pend ++ s.data.toList ∧ (pend.length + s.size ≤ 65536 → o2 = out) ∧ Kept Pt w w' := by
  go_enter Tryd.func36, Tryd.ntmps36
  go_wp2
  go_loopg [1, 6, 7, 8] (s.size + pend.length) (fun n sv swv tv nv wr => WsRel Pt k b r out pend s w n sv swv tv nv wr)
  case atStart => exact ⟨s, out, pend, 0, rfl, rfl, rfl, Int.le_refl _, Lib.hid (by simp), h, Lib.hid rfl, Kept.refl _ _, Lib.hid (fun hq => ⟨rfl, hq⟩), .inr ⟨rfl, rfl⟩⟩
  case round =>
    obtain ⟨t, o2, p2, m, hn, rfl, rfl, hm0, HM, hB, HC, hK, HS, hsw⟩ := hrel
    have hss : s.data.toList.length = s.size := (Lib.size_eq s).symm
    have htt : t.data.toList.length = t.size := (Lib.size_eq t).symm
    have htot : o2.length + p2.length + t.size = out.length + pend.length + s.size := by
      have := congrArg List.length HC.out
      simp only [List.length_append] at this
      omega
    have hmt := HM.out
    have hmb : m + t.size ≤ 140737488355328 := by omega
    have Hss := Lib.hid hss
    have Htt := Lib.hid htt
    have Htot := Lib.hid htot
    clear hss htt htot hmt
    by_cases hgt : avl p2 < (t.size : Int)
    · have hle := hB.le
      have ht1 : 65536 - p2.length < t.size := by unfold avl at hgt; omega
      rcases hsw with h0 | ⟨rfl, rfl⟩
      · omega
      by_cases hp : p2.length = 0
      · have hp2 : p2 = [] := List.eq_nil_of_length_eq_zero hp
        subst hp2
        have hmw := method_writeString ⟨k, 0, none⟩
        have has := assert_sw ⟨k, 0, none⟩
        go_wp2_with (go_at_call 44; refine (available Pt k b r o2 [] _ hB).mono ?_; rintro e w1 ⟨rfl, h1, hK1⟩; refine Hid.out ?_)
        refine Lib.hid ?_
        have c0 := h1.c0
        have c3 := h1.c3
        have f0 := h1.f 0
        have hbuf := buffered Pt k b r o2 [] _ h1
        have Hb := Lib.hid hbuf
        clear hbuf
        go_wp2_with (go_at_call 45; refine Hb.out.mono ?_; rintro e w2 ⟨rfl, rfl⟩)
        clear Hb
        refine (buf_writeString (And2 Pt b r) k o2 t _ h1.bf h1.inn2 (by omega) (by have := Htot.out; omega)).mono ?_
        rintro e w3 ⟨rfl, hF, hK3⟩
        have h3 := h1.sunk hF hK3
        have hK4 := (hK.trans hK1).trans (hK3.mono fun i hi => .inl hi)
        have hE := h3.setErr
        have e0 := h3.c0
        have g0 := h3.f 0
        have HE := Lib.hid hE
        clear c0 c3 f0 h1 hF hK3 hE
        go_wp2
        go_roundg 0
        case measure => omega
        case rel =>
          refine ⟨ByteArray.empty, o2 ++ t.data.toList, [], m + t.size, rfl, rfl, rfl, by omega, Lib.hid (by have := HM.out; simp; omega), HE.out, Lib.hid ?_, hK4.setCell (p := ⟨b, 0, none⟩) h3.pb _, Lib.hid ?_, .inl rfl⟩
          · have := HC.out
            simpa using this
          · intro hq
            have := (HS.out hq).2
            simp at this
            omega
      · have hp' : ((p2.length : Int) == 0) = false := beq_eq_false_iff_ne.2 (by omega)
        go_wp2_with (go_at_call 44; refine (available Pt k b r o2 p2 _ hB).mono ?_; rintro e w1 ⟨rfl, h1, hK1⟩; refine Hid.out ?_)
        refine Lib.hid ?_
        have c0 := h1.c0
        have hbuf := buffered Pt k b r o2 p2 _ h1
        have Hb := Lib.hid hbuf
        clear hbuf
        go_wp2_with (go_at_call 45; refine Hb.out.mono ?_; rintro e w2 ⟨rfl, rfl⟩)
        clear Hb c0
        have d1 := h1.c1
        have d2 := h1.c2
        have f2 := h1.f 2
        have hrb := h1.rb
        obtain ⟨cur, hr, hcs, hct⟩ := h1.row
        have Hct := Lib.hid hct
        have Hcs := Lib.hid hcs
        clear hct hcs hgt
        have hi1 : (p2.length : Int) ≤ 65536 := by omega
        have hKw := hK.trans hK1
        by_cases hfull : p2.length = 65536
        · have hcp := run_copy_str0 w2.drew ⟨r, 0, none⟩ 0 t
          have hB2 := (h1.setN h1.le ⟨cur, hr, Hcs.out, Hct.out⟩).drew
          rw [hfull] at hB2 d2
          have HB2 := Lib.hid hB2
          have Hfu := Lib.hid hfull
          have hK3 := (hKw.setCell (p := ⟨b, 2, none⟩) h1.pb (.int .i64 65536)).drew
          clear hB2 hfull hp'
          go_region_held3 (fun w' => w'.cell? ⟨b, 1, none⟩ = some (.slice (some ⟨r, 0, none⟩) 65536 65536) ∧ w'.cell? ⟨b, 2, none⟩ = some (.int .i64 65536)) (go_keep) (fail)
          go_wp2_with fail
          refine (flush Pt k b r o2 p2 _ HB2.out (by have := Htot.out; omega)).mono ?_
          rintro e w5 ⟨rfl, h5, hK5⟩
          have hK6 := hK3.trans hK5
          clear hcp hK3 hK5
          go_wp2
          go_roundg t.size
          case measure => have := Hfu.out; omega
          case rel =>
            refine ⟨t, o2 ++ p2, [], m, rfl, rfl, rfl, hm0, HM, h5, Lib.hid (by rw [List.append_nil]; exact HC.out), hK6, Lib.hid ?_, .inr ⟨rfl, rfl⟩⟩
            intro hq
            have := (HS.out hq).2
            have := Hfu.out
            omega
        · obtain ⟨j, hj⟩ : ∃ j, p2.length + j = 65536 := ⟨65536 - p2.length, by omega⟩
          have hcp := run_copy_str w2.drew r p2.length (65536 - p2.length) (65536 - p2.length) j t cur hr (by show j = min t.size (65536 - p2.length); omega) (by rw [Hcs.out]; omega)
          have hset : ∀ arr i, (w2.setRow r arr).cell? ⟨b, i, none⟩ = w2.cell? ⟨b, i, none⟩ := fun arr i => World.cell?_of_block (setRow_other _ _ _ _ (Ne.symm hrb))
          have hsetf : ∀ arr i, (w2.setRow r arr).frozen? ⟨b, i, none⟩ = w2.frozen? ⟨b, i, none⟩ := fun arr i => World.frozen?_of_block (setRow_other _ _ _ _ (Ne.symm hrb))
          have hset2 : ∀ arr i, (w2.drew.setRow r arr).cell? ⟨b, i, none⟩ = w2.cell? ⟨b, i, none⟩ := fun arr i => World.cell?_of_block (setRow_other _ _ _ _ (Ne.symm hrb))
          have hsetf2 : ∀ arr i, (w2.drew.setRow r arr).frozen? ⟨b, i, none⟩ = w2.frozen? ⟨b, i, none⟩ := fun arr i => World.frozen?_of_block (setRow_other _ _ _ _ (Ne.symm hrb))
          have Hj := Lib.hid hj
          have hjt : (j : Int) ≤ t.size := by omega
          have hjt' : j ≤ t.size := by omega
          have hlj : (List.take j t.data.toList).length = j := by rw [List.length_take, Htt.out]; omega
          have hF := h1.drew.fill (cur := cur) (news := List.take j t.data.toList) (n := j) Hcs.out Hct.out hlj (by omega)
          have hK3 := (hKw.drew.setRow h1.pr (cur.toList.take p2.length ++ (Lib.byteCells (List.take j t.data.toList) ++ cur.toList.drop (p2.length + j))).toArray).setCell (p := ⟨b, 2, none⟩) h1.pb (.int .i64 (p2.length + j))
          have HF := Lib.hid hF
          have Hlj := Lib.hid hlj
          clear hj hF hlj hp'
          go_region_held3 (fun w' => w'.cell? ⟨b, 1, none⟩ = some (.slice (some ⟨r, 0, none⟩) 65536 65536) ∧ w'.cell? ⟨b, 2, none⟩ = some (.int .i64 p2.length)) (go_keep) (fail)
          go_wp2_with fail
          refine (flush Pt k b r o2 (p2 ++ List.take j t.data.toList) _ HF.out (by have := Htot.out; have := Hlj.out; simp only [List.length_append]; omega)).mono ?_
          rintro e w5 ⟨rfl, h5, hK5⟩
          have hK6 := hK3.trans hK5
          clear hset hsetf hset2 hsetf2 hcp hK3 hK5
          go_wp2
          go_roundg (t.extract j t.size).size
          case measure => have := Hj.out; simp; omega
          case rel =>
            refine ⟨t.extract j t.size, o2 ++ (p2 ++ List.take j t.data.toList), [], m + j, rfl, rfl, rfl, by omega, Lib.hid ?_, h5, Lib.hid ?_, hK6, Lib.hid ?_, .inr ⟨rfl, rfl⟩⟩
            · have := HM.out
              simp
              omega
            · rw [Lib.extract_to_end, List.append_nil, ← List.append_assoc, List.append_assoc, List.take_append_drop]
              exact HC.out
            · intro hq
              have := (HS.out hq).2
              have := Hj.out
              omega
    · go_wp2_with (go_at_call 44; refine (available Pt k b r o2 p2 _ hB).mono ?_; rintro e w1 ⟨rfl, h1, hK1⟩; refine Hid.out ?_)
      refine Lib.hid ?_
      have c0 := h1.c0
      go_wp2
      clear hsw c0
      have d1 := h1.c1
      have d2 := h1.c2
      have f2 := h1.f 2
      have hrb := h1.rb
      have hle := h1.le
      obtain ⟨cur, hr, hcs, hct⟩ := h1.row
      have Hct := Lib.hid hct
      have Hcs := Lib.hid hcs
      clear hct hcs
      have hav : p2.length + t.size ≤ 65536 := by unfold avl at hgt; omega
      clear hgt
      have hi1 : (p2.length : Int) ≤ 65536 := by omega
      by_cases hfull : p2.length = 65536
      · have ht0 : t.size = 0 := by omega
        have hcp := run_copy_str0 w1.drew ⟨r, 0, none⟩ 0 t
        have hB2 := (h1.setN h1.le ⟨cur, hr, Hcs.out, Hct.out⟩).drew
        rw [hfull] at hB2
        have HB2 := Lib.hid hB2
        have Ht0 := Lib.hid ht0
        rw [hfull] at d2
        clear hB2 hfull ht0
        go_region_held3 (fun w' => w'.cell? ⟨b, 1, none⟩ = some (.slice (some ⟨r, 0, none⟩) 65536 65536) ∧ w'.cell? ⟨b, 2, none⟩ = some (.int .i64 65536)) (go_keep) (fail)
        go_wp2
        go_ret2
        have hm' : m = s.size := by have := HM.out; have := Ht0.out; omega
        have htl : t.data.toList = [] := List.eq_nil_of_length_eq_zero (Htt.out.trans Ht0.out)
        refine ⟨ret_two hm', o2, p2, HB2.out, ?_, fun hq => (HS.out hq).1, ((hK.trans hK1).setCell (p := ⟨b, 2, none⟩) h1.pb _).drew⟩
        have := HC.out
        rw [htl, List.append_nil] at this
        exact this
      · have hcp := run_copy_str w1.drew r p2.length (65536 - p2.length) (65536 - p2.length) t.size t cur hr (by show t.size = min t.size (65536 - p2.length); omega) (by rw [Hcs.out]; exact hav)
        have hset : ∀ arr i, (w1.setRow r arr).cell? ⟨b, i, none⟩ = w1.cell? ⟨b, i, none⟩ := fun arr i => World.cell?_of_block (setRow_other _ _ _ _ (Ne.symm hrb))
        have hsetf : ∀ arr i, (w1.setRow r arr).frozen? ⟨b, i, none⟩ = w1.frozen? ⟨b, i, none⟩ := fun arr i => World.frozen?_of_block (setRow_other _ _ _ _ (Ne.symm hrb))
        have hset2 : ∀ arr i, (w1.drew.setRow r arr).cell? ⟨b, i, none⟩ = w1.cell? ⟨b, i, none⟩ := fun arr i => World.cell?_of_block (setRow_other _ _ _ _ (Ne.symm hrb))
        have hsetf2 : ∀ arr i, (w1.drew.setRow r arr).frozen? ⟨b, i, none⟩ = w1.frozen? ⟨b, i, none⟩ := fun arr i => World.frozen?_of_block (setRow_other _ _ _ _ (Ne.symm hrb))
        go_region_held3 (fun w' => w'.cell? ⟨b, 1, none⟩ = some (.slice (some ⟨r, 0, none⟩) 65536 65536) ∧ w'.cell? ⟨b, 2, none⟩ = some (.int .i64 p2.length)) (go_keep) (fail)
        go_wp2
        go_ret2
        have hF := h1.drew.fill (cur := cur) (news := List.take t.size t.data.toList) (n := t.size) Hcs.out Hct.out (by rw [List.length_take, Htt.out, Nat.min_self]) hav
        have hl : List.take t.size t.data.toList = t.data.toList := List.take_of_length_le (by rw [Htt.out]; exact Nat.le_refl _)
        refine ⟨ret_two HM.out, o2, p2 ++ List.take t.size t.data.toList, hF, ?_, fun hq => (HS.out hq).1, ((hK.trans hK1).drew.setRow h1.pr _).setCell (p := ⟨b, 2, none⟩) h1.pb _⟩
        rw [hl, ← List.append_assoc]
        exact HC.out

end Go.Proofs.Qxb6616850aDoor
