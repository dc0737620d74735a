/-
  (*bytes.Buffer).Write, WriteString, Bytes, at this dump: the buffer 'Bf', the protected blocks 'Kept'.
-/
import Derived.Test.Qxb6616850aDoorGrow
import Derived.Lib.BufferSrc
import Derived.Laws.IdiomCopy
import Derived.Deep.QuietTactic
import Derived.BigQuiet
namespace Go.Proofs.Qxb6616850aDoor
open Go.RowKit

theorem bf_written {Pt : Nat → Prop} {b g cap : Nat} {lr : Int} {cur : Array Value} {out news : List UInt8} {w : World} (hb : ¬ Pt b)
    (hbk : w.heap[b]? = some (.cells #[.slice (some ⟨g, 0, none⟩) (out.length + news.length) cap, .int .i64 0, .int .i8 lr] 55 (0, 0))) (hg : w.heap[g]? = some (.cells cur 5 (0, 0)))
    (hcm : cap ≤ maxLen) (hcs : cur.size = cap) (hgb : g ≠ b) (hn : out.length + news.length ≤ cap) (h1 : 1 ≤ news.length) (hgp : ¬ Pt g) :
    Bf Pt b (out ++ news) (w.setRow g (Lib.byteCells out ++ (Lib.byteCells news ++ cur.toList.drop (out.length + news.length))).toArray) := by
  rw [← List.append_assoc]
  have hl1 : (Lib.byteCells out).length = out.length := Lib.byteCells_length _
  have hl2 : (Lib.byteCells news).length = news.length := Lib.byteCells_length _
  refine ⟨hb, lr, .inr ⟨g, cap, _, ?_, setRow_heap w g cur _ 5 (0, 0) hg, ?_, ?_, hcm, ?_, ?_, hgb, hgp⟩⟩
  · rw [setRow_other _ _ _ _ (Ne.symm hgb), List.length_append]; exact hbk
  · rw [List.length_append]; omega
  · rw [List.length_append]; exact hn
  · simp only [List.size_toArray, List.length_append, hl1, hl2, List.length_drop, Array.length_toList]; omega
  · rw [List.toList_toArray, List.length_append, List.take_append_of_le_length (by rw [List.length_append, hl1, hl2]; exact Nat.le_refl _), List.take_of_length_le (by rw [List.length_append, hl1, hl2]; exact Nat.le_refl _), Lib.byteCells_append]

set_option maxHeartbeats 1600000 in
set_option maxRecDepth 100000 in
/-- Write(p), p of at least one byte, in another block than the buffer's. -/
theorem buf_write (Pt : Nat → Prop) (b : Nat) (out news : List UInt8) (a : Addr) (c : Nat) (w : World) (h : Bf Pt b out w) (hi : ∀ k, Pt k → k < w.heap.size)
    (hab : a.block ≠ b) (hsrc : ∀ j v, (Lib.byteCells news)[j]? = some v → w.cell? (a.add j) = some v) (h1 : 1 ≤ news.length) (hlim : out.length + news.length ≤ 140737488355328) :
    Calls Tryd.prog 77 #[.pointer (some ⟨b, 0, none⟩), .slice (some a) news.length c] w fun e w' => e = .returned (.tuple #[.int .i64 news.length, .nilIface]) ∧ Bf Pt b (out ++ news) w' ∧ Kept Pt w w' := by
  have hinfo : (Tryd.prog.info? 5).map (·.size) = some 1 := by
    obtain ⟨i0, hi, -, hz1, -⟩ := info_parts Tryd.info5
    rw [hi]; simp [hz1]
  have hcl : (Lib.byteCells news).length = news.length := Lib.byteCells_length _
  obtain ⟨hb, lr, hc⟩ := id h
  rcases hc with ⟨rfl, hbk⟩ | ⟨g, cap, cur, hbk, hg, ho1, hoc, hcm, hcs, htk, hgb, hgp⟩
  · -- nothing has been written yet
    have c2 : w.cell? ⟨b, 2, none⟩ = some (.int .i8 lr) := by rw [Lib.cell_of_heap hbk]; rfl
    have f2 : w.frozen? ⟨b, 2, none⟩ = false := Lib.frozen_of_heap hbk 2
    have hbk' := Lib.heap_setCell_same (i := 2) hbk (.int .i8 0)
    have c0' : (w.setCell ⟨b, 2, none⟩ (.int .i8 0)).cell? ⟨b, 0, none⟩ = some (.slice none 0 0) := by rw [Lib.cell_of_heap hbk']; rfl
    have hK0 : Kept Pt w (w.setCell ⟨b, 2, none⟩ (.int .i8 0)) := (Kept.refl Pt w).setCell (p := ⟨b, 2, none⟩) hb _
    have hg0 : w.grownBy (w.setCell ⟨b, 2, none⟩ (.int .i8 0)) (some b) := Lib.grownBy_setCell w b 2 _
    have hgr : Calls Tryd.prog 80 #[.pointer (some ⟨b, 0, none⟩), .int .i64 news.length] (w.setCell ⟨b, 2, none⟩ (.int .i8 0)) fun e w' => e = .returned (.int .i64 0) ∧ Grew b 0 news.length [] (w.setCell ⟨b, 2, none⟩ (.int .i8 0)) w' := by
      by_cases h64 : news.length ≤ 64
      · exact grow_small b news.length 0 _ hbk' h1 h64
      · exact grow_big b news.length 0 _ hbk' (by omega) (by simpa using hlim)
    clear hbk
    go_enter Tryd.func77, Tryd.ntmps77
    go_wp2_with (go_at_call 79; refine (Tryd.Buffer_tryGrow_none b none 0 0 news.length _ c0' (Nat.le_refl _) (Nat.zero_le _) (by omega)).mono ?_; rintro e w' ⟨rfl, hw'⟩; refine Hid.out ?_)
    refine Lib.hid ?_
    subst hw'
    go_wp2_with (go_at_call 80; refine hgr.mono ?_; rintro e W1 ⟨rfl, g, cap, cur, lr2, hgw, hbk2, hg, hcs, hnc, hcm, -, hgg⟩; refine Hid.out ?_)
    refine Lib.hid ?_
    rw [Nat.zero_add] at hbk2 hnc
    have hgW := Lib.grownBy_trans hg0 hgg
    have hgw' : w.heap.size ≤ g := by simpa [World.setCell] using hgw
    have hbw : b < w.heap.size := h.lt
    have d0 : W1.cell? ⟨b, 0, none⟩ = some (.slice (some ⟨g, 0, none⟩) news.length cap) := by rw [Lib.cell_of_heap hbk2]; rfl
    have hsrc1 : ∀ j v, (Lib.byteCells news)[j]? = some v → W1.cell? (a.add j) = some v := fun j v hj => hgW.cell (hsrc j v hj) (by rw [Lib.block_add]; exact fun e => hab (Option.some.inj e))
    have hcp := run_copy_row (P := Tryd.prog) W1 23 23 3 5 g 0 news.length cap a news.length c cur 5 (Lib.byteCells news) Tryd.underlying23 hinfo hg (by rw [hcl]; exact (Nat.min_self _).symm) hsrc1 (by rw [hcl]; omega) (Lib.byteCells_one _)
    rw [hcl] at hcp
    have hcm' := hcm
    unfold maxLen at hcm'
    clear hgr hsrc c0' hbk' c2 f2
    go_wp2
    go_ret2
    have hK : Kept Pt w W1 := (Kept.refl Pt w).grown hi hgW (fun k hk => by cases hk; exact hb)
    have hgp : ¬ Pt g := fun hp => by have := hi g hp; omega
    refine ⟨rfl, ?_, ?_⟩
    · have hF := bf_written (out := []) (news := news) hb (by simpa using hbk2) hg hcm hcs (by omega) (by simpa using hnc) h1 hgp
      simpa [Lib.byteCells] using hF
    · exact hK.setRow hgp _
  · have c2 : w.cell? ⟨b, 2, none⟩ = some (.int .i8 lr) := by rw [Lib.cell_of_heap hbk]; rfl
    have f2 : w.frozen? ⟨b, 2, none⟩ = false := Lib.frozen_of_heap hbk 2
    have hbk' := Lib.heap_setCell_same (i := 2) hbk (.int .i8 0)
    have hg' : (w.setCell ⟨b, 2, none⟩ (.int .i8 0)).heap[g]? = some (.cells cur 5 (0, 0)) := by rw [Below.heap_setCell _ _ _ _ hgb]; exact hg
    have c0' : (w.setCell ⟨b, 2, none⟩ (.int .i8 0)).cell? ⟨b, 0, none⟩ = some (.slice (some ⟨g, 0, none⟩) out.length cap) := by rw [Lib.cell_of_heap hbk']; rfl
    have f0' : (w.setCell ⟨b, 2, none⟩ (.int .i8 0)).frozen? ⟨b, 0, none⟩ = false := Lib.frozen_of_heap hbk' 0
    have hK0 : Kept Pt w (w.setCell ⟨b, 2, none⟩ (.int .i8 0)) := (Kept.refl Pt w).setCell (p := ⟨b, 2, none⟩) hb _
    have hg0 : w.grownBy (w.setCell ⟨b, 2, none⟩ (.int .i8 0)) (some b) := Lib.grownBy_setCell w b 2 _
    have hcm' := hcm
    unfold maxLen at hcm'
    by_cases hroom : news.length ≤ cap - out.length
    · clear hbk
      have hbk3 := Lib.heap_setCell_same (i := 0) hbk' (.slice (some ⟨g, 0, none⟩) (out.length + news.length) cap)
      have hg3 : ((w.setCell ⟨b, 2, none⟩ (.int .i8 0)).setCell ⟨b, 0, none⟩ (.slice (some ⟨g, 0, none⟩) (out.length + news.length) cap)).heap[g]? = some (.cells cur 5 (0, 0)) := by rw [Below.heap_setCell _ _ _ _ hgb]; exact hg'
      have hgW := Lib.grownBy_trans hg0 (Lib.grownBy_setCell (w.setCell ⟨b, 2, none⟩ (.int .i8 0)) b 0 (.slice (some ⟨g, 0, none⟩) (out.length + news.length) cap))
      have hK1 := hK0.setCell (p := ⟨b, 0, none⟩) hb (.slice (some ⟨g, 0, none⟩) (out.length + news.length) cap)
      have hT : Calls Tryd.prog 79 #[.pointer (some ⟨b, 0, none⟩), .int .i64 news.length] (w.setCell ⟨b, 2, none⟩ (.int .i8 0)) fun e w' => e = .returned (.tuple #[.int .i64 out.length, .bool true]) ∧ Hid (w' = (w.setCell ⟨b, 2, none⟩ (.int .i8 0)).setCell ⟨b, 0, none⟩ (.slice (some ⟨g, 0, none⟩) (out.length + news.length) cap)) :=
        Tryd.Buffer_tryGrow_room b _ out.length cap news.length _ c0' f0' hoc hcm hroom
      go_enter Tryd.func77, Tryd.ntmps77
      go_wp2_with (go_at_call 79; refine hT.mono ?_; rintro e W1 ⟨rfl, hw'⟩; refine Hid.out ?_)
      refine Lib.hid ?_
      rw [← hw'.out] at hbk3 hg3 hgW hK1
      clear hT
      clear hw' c0' f0' hbk' hg' c2 f2 hK0 hg0
      have d0 : W1.cell? ⟨b, 0, none⟩ = some (.slice (some ⟨g, 0, none⟩) (out.length + news.length) cap) := by rw [Lib.cell_of_heap hbk3]; rfl
      have hne : ¬ cap = out.length := by omega
      have hsrc1 : ∀ j v, (Lib.byteCells news)[j]? = some v → W1.cell? (a.add j) = some v := fun j v hj => hgW.cell (hsrc j v hj) (by rw [Lib.block_add]; exact fun e => hab (Option.some.inj e))
      have hcp := run_copy_row (P := Tryd.prog) W1 23 23 3 5 g out.length news.length (cap - out.length) a news.length c cur 5 (Lib.byteCells news) Tryd.underlying23 hinfo hg3 (by rw [hcl]; exact (Nat.min_self _).symm) hsrc1 (by rw [hcl]; omega) (Lib.byteCells_one _)
      rw [hcl, htk] at hcp
      clear hsrc
      go_wp2
      go_ret2
      exact ⟨rfl, bf_written hb hbk3 hg3 hcm hcs hgb (by omega) h1 hgp, hK1.setRow hgp _⟩
    · clear hbk
      have hgr := grow_row b g out.length cap news.length 0 cur (Lib.byteCells out) (w.setCell ⟨b, 2, none⟩ (.int .i8 0)) hbk' (Lib.byteCells_length _) ho1 hg' hoc hcm hcs htk hgb (Lib.byteCells_one _) h1 (by omega) hlim
      go_enter Tryd.func77, Tryd.ntmps77
      go_wp2_with (go_at_call 79; refine (Tryd.Buffer_tryGrow_none b _ out.length cap news.length _ c0' hoc hcm (by omega)).mono ?_; rintro e w' ⟨rfl, hw'⟩; refine Hid.out ?_)
      refine Lib.hid ?_
      subst hw'
      go_wp2_with (go_at_call 80; refine hgr.mono ?_; rintro e W1 ⟨rfl, g2, cap2, cur2, lr2, hgw, hbk2, hg2, hcs2, hnc, hcm2, htk2, hgg⟩; refine Hid.out ?_)
      refine Lib.hid ?_
      have hgW := Lib.grownBy_trans hg0 hgg
      have hgw' : w.heap.size ≤ g2 := by simpa [World.setCell] using hgw
      have hbw : b < w.heap.size := h.lt
      have d0 : W1.cell? ⟨b, 0, none⟩ = some (.slice (some ⟨g2, 0, none⟩) (out.length + news.length) cap2) := by rw [Lib.cell_of_heap hbk2]; rfl
      have hne : ¬ cap2 = out.length := by omega
      have hsrc1 : ∀ j v, (Lib.byteCells news)[j]? = some v → W1.cell? (a.add j) = some v := fun j v hj => hgW.cell (hsrc j v hj) (by rw [Lib.block_add]; exact fun e => hab (Option.some.inj e))
      have hcp := run_copy_row (P := Tryd.prog) W1 23 23 3 5 g2 out.length news.length (cap2 - out.length) a news.length c cur2 5 (Lib.byteCells news) Tryd.underlying23 hinfo hg2 (by rw [hcl]; exact (Nat.min_self _).symm) hsrc1 (by rw [hcl]; omega) (Lib.byteCells_one _)
      rw [hcl, htk2] at hcp
      have hcm2' := hcm2
      unfold maxLen at hcm2'
      clear hgr hsrc c0' f0' hbk' hg' c2 f2
      go_wp2
      go_ret2
      have hK : Kept Pt w W1 := (Kept.refl Pt w).grown hi hgW (fun k hk => by cases hk; exact hb)
      have hgp2 : ¬ Pt g2 := fun hp => by have := hi g2 hp; omega
      exact ⟨rfl, bf_written hb hbk2 hg2 hcm2 hcs2 (by omega) hnc h1 hgp2, hK.setRow hgp2 _⟩

set_option maxHeartbeats 1600000 in
set_option maxRecDepth 100000 in
/-- WriteString(s), s of at least one byte. -/
theorem buf_writeString (Pt : Nat → Prop) (b : Nat) (out : List UInt8) (s : ByteArray) (w : World) (h : Bf Pt b out w) (hi : ∀ k, Pt k → k < w.heap.size)
    (h1 : 1 ≤ s.size) (hlim : out.length + s.size ≤ 140737488355328) :
    Calls Tryd.prog 78 #[.pointer (some ⟨b, 0, none⟩), .string s] w fun e w' => e = .returned (.tuple #[.int .i64 s.size, .nilIface]) ∧ Bf Pt b (out ++ s.data.toList) w' ∧ Kept Pt w w' := by
  have hinfo : (Tryd.prog.info? 5).map (·.size) = some 1 := by
    obtain ⟨i0, hi, -, hz1, -⟩ := info_parts Tryd.info5
    rw [hi]; simp [hz1]
  have hcl : s.data.toList.length = s.size := (Lib.size_eq s).symm
  have HCL := Lib.hid hcl
  clear hcl
  obtain ⟨hb, lr, hc⟩ := id h
  rcases hc with ⟨rfl, hbk⟩ | ⟨g, cap, cur, hbk, hg, ho1, hoc, hcm, hcs, htk, hgb, hgp⟩
  · -- nothing has been written yet
    have c2 : w.cell? ⟨b, 2, none⟩ = some (.int .i8 lr) := by rw [Lib.cell_of_heap hbk]; rfl
    have f2 : w.frozen? ⟨b, 2, none⟩ = false := Lib.frozen_of_heap hbk 2
    have hbk' := Lib.heap_setCell_same (i := 2) hbk (.int .i8 0)
    have c0' : (w.setCell ⟨b, 2, none⟩ (.int .i8 0)).cell? ⟨b, 0, none⟩ = some (.slice none 0 0) := by rw [Lib.cell_of_heap hbk']; rfl
    have hK0 : Kept Pt w (w.setCell ⟨b, 2, none⟩ (.int .i8 0)) := (Kept.refl Pt w).setCell (p := ⟨b, 2, none⟩) hb _
    have hg0 : w.grownBy (w.setCell ⟨b, 2, none⟩ (.int .i8 0)) (some b) := Lib.grownBy_setCell w b 2 _
    have hgr : Calls Tryd.prog 80 #[.pointer (some ⟨b, 0, none⟩), .int .i64 s.size] (w.setCell ⟨b, 2, none⟩ (.int .i8 0)) fun e w' => e = .returned (.int .i64 0) ∧ Grew b 0 s.size [] (w.setCell ⟨b, 2, none⟩ (.int .i8 0)) w' := by
      by_cases h64 : s.size ≤ 64
      · exact grow_small b s.size 0 _ hbk' h1 h64
      · exact grow_big b s.size 0 _ hbk' (by omega) (by simpa using hlim)
    clear hbk
    go_enter Tryd.func78, Tryd.ntmps78
    go_wp2_with (go_at_call 79; refine (Tryd.Buffer_tryGrow_none b none 0 0 s.size _ c0' (Nat.le_refl _) (Nat.zero_le _) (by omega)).mono ?_; rintro e w' ⟨rfl, hw'⟩; refine Hid.out ?_)
    refine Lib.hid ?_
    subst hw'
    go_wp2_with (go_at_call 80; refine hgr.mono ?_; rintro e W1 ⟨rfl, g, cap, cur, lr2, hgw, hbk2, hg, hcs, hnc, hcm, -, hgg⟩; refine Hid.out ?_)
    refine Lib.hid ?_
    rw [Nat.zero_add] at hbk2 hnc
    have hgW := Lib.grownBy_trans hg0 hgg
    have hgw' : w.heap.size ≤ g := by simpa [World.setCell] using hgw
    have hbw : b < w.heap.size := h.lt
    have d0 : W1.cell? ⟨b, 0, none⟩ = some (.slice (some ⟨g, 0, none⟩) s.size cap) := by rw [Lib.cell_of_heap hbk2]; rfl
    have hcp := Lib.run_copy_row_string (P := Tryd.prog) W1 23 9 3 5 g 0 s.size cap s cur 5 Tryd.underlying23 hinfo hg (Nat.le_refl _) (by omega)
    have hcm' := hcm
    unfold maxLen at hcm'
    clear hgr c0' hbk' c2 f2
    go_wp2
    go_ret2
    have hcl := HCL.out
    have hK : Kept Pt w W1 := (Kept.refl Pt w).grown hi hgW (fun k hk => by cases hk; exact hb)
    have hgp : ¬ Pt g := fun hp => by have := hi g hp; omega
    refine ⟨rfl, ?_, ?_⟩
    · have hF := bf_written (out := []) (news := s.data.toList) hb (by simpa [hcl] using hbk2) hg hcm hcs (by omega) (by simpa [hcl] using hnc) (by omega) hgp
      simpa [Lib.byteCells, hcl] using hF
    · exact hK.setRow hgp _
  · have c2 : w.cell? ⟨b, 2, none⟩ = some (.int .i8 lr) := by rw [Lib.cell_of_heap hbk]; rfl
    have f2 : w.frozen? ⟨b, 2, none⟩ = false := Lib.frozen_of_heap hbk 2
    have hbk' := Lib.heap_setCell_same (i := 2) hbk (.int .i8 0)
    have hg' : (w.setCell ⟨b, 2, none⟩ (.int .i8 0)).heap[g]? = some (.cells cur 5 (0, 0)) := by rw [Below.heap_setCell _ _ _ _ hgb]; exact hg
    have c0' : (w.setCell ⟨b, 2, none⟩ (.int .i8 0)).cell? ⟨b, 0, none⟩ = some (.slice (some ⟨g, 0, none⟩) out.length cap) := by rw [Lib.cell_of_heap hbk']; rfl
    have f0' : (w.setCell ⟨b, 2, none⟩ (.int .i8 0)).frozen? ⟨b, 0, none⟩ = false := Lib.frozen_of_heap hbk' 0
    have hK0 : Kept Pt w (w.setCell ⟨b, 2, none⟩ (.int .i8 0)) := (Kept.refl Pt w).setCell (p := ⟨b, 2, none⟩) hb _
    have hg0 : w.grownBy (w.setCell ⟨b, 2, none⟩ (.int .i8 0)) (some b) := Lib.grownBy_setCell w b 2 _
    have hcm' := hcm
    unfold maxLen at hcm'
    by_cases hroom : s.size ≤ cap - out.length
    · clear hbk
      have hbk3 := Lib.heap_setCell_same (i := 0) hbk' (.slice (some ⟨g, 0, none⟩) (out.length + s.size) cap)
      have hg3 : ((w.setCell ⟨b, 2, none⟩ (.int .i8 0)).setCell ⟨b, 0, none⟩ (.slice (some ⟨g, 0, none⟩) (out.length + s.size) cap)).heap[g]? = some (.cells cur 5 (0, 0)) := by rw [Below.heap_setCell _ _ _ _ hgb]; exact hg'
      have hgW := Lib.grownBy_trans hg0 (Lib.grownBy_setCell (w.setCell ⟨b, 2, none⟩ (.int .i8 0)) b 0 (.slice (some ⟨g, 0, none⟩) (out.length + s.size) cap))
      have hK1 := hK0.setCell (p := ⟨b, 0, none⟩) hb (.slice (some ⟨g, 0, none⟩) (out.length + s.size) cap)
      have hT : Calls Tryd.prog 79 #[.pointer (some ⟨b, 0, none⟩), .int .i64 s.size] (w.setCell ⟨b, 2, none⟩ (.int .i8 0)) fun e w' => e = .returned (.tuple #[.int .i64 out.length, .bool true]) ∧ Hid (w' = (w.setCell ⟨b, 2, none⟩ (.int .i8 0)).setCell ⟨b, 0, none⟩ (.slice (some ⟨g, 0, none⟩) (out.length + s.size) cap)) :=
        Tryd.Buffer_tryGrow_room b _ out.length cap s.size _ c0' f0' hoc hcm hroom
      go_enter Tryd.func78, Tryd.ntmps78
      go_wp2_with (go_at_call 79; refine hT.mono ?_; rintro e W1 ⟨rfl, hw'⟩; refine Hid.out ?_)
      refine Lib.hid ?_
      rw [← hw'.out] at hbk3 hg3 hgW hK1
      clear hT
      clear hw' c0' f0' hbk' hg' c2 f2 hK0 hg0
      have d0 : W1.cell? ⟨b, 0, none⟩ = some (.slice (some ⟨g, 0, none⟩) (out.length + s.size) cap) := by rw [Lib.cell_of_heap hbk3]; rfl
      have hne : ¬ cap = out.length := by omega
      have hcp := Lib.run_copy_row_string (P := Tryd.prog) W1 23 9 3 5 g out.length s.size (cap - out.length) s cur 5 Tryd.underlying23 hinfo hg3 (Nat.le_refl _) (by omega)
      rw [htk] at hcp
      go_wp2
      go_ret2
      have hcl := HCL.out
      exact ⟨rfl, by have hF := bf_written (out := out) (news := s.data.toList) hb (by rw [hcl]; exact hbk3) hg3 hcm hcs hgb (by omega) (by omega) hgp; rw [hcl] at hF; exact hF, hK1.setRow hgp _⟩
    · clear hbk
      have hgr := grow_row b g out.length cap s.size 0 cur (Lib.byteCells out) (w.setCell ⟨b, 2, none⟩ (.int .i8 0)) hbk' (Lib.byteCells_length _) ho1 hg' hoc hcm hcs htk hgb (Lib.byteCells_one _) h1 (by omega) hlim
      go_enter Tryd.func78, Tryd.ntmps78
      go_wp2_with (go_at_call 79; refine (Tryd.Buffer_tryGrow_none b _ out.length cap s.size _ c0' hoc hcm (by omega)).mono ?_; rintro e w' ⟨rfl, hw'⟩; refine Hid.out ?_)
      refine Lib.hid ?_
      subst hw'
      go_wp2_with (go_at_call 80; refine hgr.mono ?_; rintro e W1 ⟨rfl, g2, cap2, cur2, lr2, hgw, hbk2, hg2, hcs2, hnc, hcm2, htk2, hgg⟩; refine Hid.out ?_)
      refine Lib.hid ?_
      have hgW := Lib.grownBy_trans hg0 hgg
      have hgw' : w.heap.size ≤ g2 := by simpa [World.setCell] using hgw
      have hbw : b < w.heap.size := h.lt
      have d0 : W1.cell? ⟨b, 0, none⟩ = some (.slice (some ⟨g2, 0, none⟩) (out.length + s.size) cap2) := by rw [Lib.cell_of_heap hbk2]; rfl
      have hne : ¬ cap2 = out.length := by omega
      have hcp := Lib.run_copy_row_string (P := Tryd.prog) W1 23 9 3 5 g2 out.length s.size (cap2 - out.length) s cur2 5 Tryd.underlying23 hinfo hg2 (Nat.le_refl _) (by omega)
      rw [htk2] at hcp
      have hcm2' := hcm2
      unfold maxLen at hcm2'
      clear hgr c0' f0' hbk' hg' c2 f2
      go_wp2
      go_ret2
      have hcl := HCL.out
      have hK : Kept Pt w W1 := (Kept.refl Pt w).grown hi hgW (fun k hk => by cases hk; exact hb)
      have hgp2 : ¬ Pt g2 := fun hp => by have := hi g2 hp; omega
      exact ⟨rfl, by have hF := bf_written (out := out) (news := s.data.toList) hb (by rw [hcl]; exact hbk2) hg2 hcm2 hcs2 (by omega) (by omega) (by omega) hgp2; rw [hcl] at hF; exact hF, hK.setRow hgp2 _⟩


set_option maxHeartbeats 800000 in
/-- Bytes(): the buffer's own row. -/
theorem buf_bytes (Pt : Nat → Prop) (b : Nat) (out : List UInt8) (w : World) (h : Bf Pt b out w) :
    Calls Tryd.prog 38 #[.pointer (some ⟨b, 0, none⟩)] w fun e w' => (∃ n, w' = w.drewN n) ∧ ((out = [] ∧ e = .returned (.slice none 0 0)) ∨
      ∃ g cap cur, e = .returned (.slice (some ⟨g, 0, none⟩) out.length cap) ∧ w.heap[g]? = some (.cells cur 5 (0, 0)) ∧ out.length ≤ cur.size ∧ cur.toList.take out.length = Lib.byteCells out ∧ out.length ≤ maxLen) := by
  obtain ⟨hb, lr, hc⟩ := h
  rcases hc with ⟨rfl, hbk⟩ | ⟨g, cap, cur, hbk, hg, ho1, hoc, hcm, hcs, htk, hgb, hgp⟩
  · have c0 : w.cell? ⟨b, 0, none⟩ = some (.slice none 0 0) := by rw [Lib.cell_of_heap hbk]; rfl
    have c1 : w.cell? ⟨b, 1, none⟩ = some (.int .i64 0) := by rw [Lib.cell_of_heap hbk]; rfl
    go_enter Tryd.func38, Tryd.ntmps38
    go_wp2
    go_quiet (fail)
    go_wp2
    go_ret
    exact ⟨⟨_, rfl⟩, .inl ⟨trivial, rfl⟩⟩
  · have c0 : w.cell? ⟨b, 0, none⟩ = some (.slice (some ⟨g, 0, none⟩) out.length cap) := by rw [Lib.cell_of_heap hbk]; rfl
    have c1 : w.cell? ⟨b, 1, none⟩ = some (.int .i64 0) := by rw [Lib.cell_of_heap hbk]; rfl
    have hcm' := hcm
    unfold maxLen at hcm'
    have HT := Lib.hid htk
    have HC := Lib.hid hcs
    clear htk hcs
    go_enter Tryd.func38, Tryd.ntmps38
    go_wp2
    go_quiet (fail)
    go_wp2
    go_ret
    exact ⟨⟨_, rfl⟩, .inr ⟨g, cap, cur, rfl, hg, by rw [HC.out]; exact hoc, HT.out, by omega⟩⟩

end Go.Proofs.Qxb6616850aDoor
