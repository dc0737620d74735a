/-
  bufio.Writer over a bytes.Buffer, at this dump: 'Bw'. Available, Buffered, Flush.
-/
import Derived.Test.Qxb6616850aDoorBuf
import Derived.Deep.RegionHeld3
namespace Go.Proofs.Qxb6616850aDoor
open Go.RowKit

/-- The protected blocks and two more. -/
def And2 (Pt : Nat → Prop) (b r : Nat) : Nat → Prop := fun k => Pt k ∨ k = b ∨ k = r

/-- A bufio.Writer in block b (its row: block r, 65536 bytes) over the sink s: what has reached the sink, what waits. -/
structure Bw (Pt : Nat → Prop) (s b r : Nat) (out pend : List UInt8) (w : World) : Prop where
  bf : Bf (And2 Pt b r) s out w
  pb : ¬ Pt b
  pr : ¬ Pt r
  le : pend.length ≤ 65536
  blk : w.heap[b]? = some (.cells #[.nilIface, .slice (some ⟨r, 0, none⟩) 65536 65536, .int .i64 pend.length, .iface 26 (.pointer (some ⟨s, 0, none⟩))] 74 (0, 0))
  row : ∃ cur, w.heap[r]? = some (.cells cur 5 (0, 0)) ∧ cur.size = 65536 ∧ cur.toList.take pend.length = Lib.byteCells pend
  inn : ∀ k, Pt k → k < w.heap.size

section
variable {Pt : Nat → Prop} {s b r : Nat} {out pend : List UInt8} {w w' : World}

theorem Bw.c0 (h : Bw Pt s b r out pend w) : w.cell? ⟨b, 0, none⟩ = some .nilIface := by rw [Lib.cell_of_heap h.blk]; rfl
theorem Bw.c1 (h : Bw Pt s b r out pend w) : w.cell? ⟨b, 1, none⟩ = some (.slice (some ⟨r, 0, none⟩) 65536 65536) := by rw [Lib.cell_of_heap h.blk]; rfl
theorem Bw.c2 (h : Bw Pt s b r out pend w) : w.cell? ⟨b, 2, none⟩ = some (.int .i64 pend.length) := by rw [Lib.cell_of_heap h.blk]; rfl
theorem Bw.c3 (h : Bw Pt s b r out pend w) : w.cell? ⟨b, 3, none⟩ = some (.iface 26 (.pointer (some ⟨s, 0, none⟩))) := by rw [Lib.cell_of_heap h.blk]; rfl
theorem Bw.f (h : Bw Pt s b r out pend w) (i : Nat) : w.frozen? ⟨b, i, none⟩ = false := Lib.frozen_of_heap h.blk i
theorem Bw.drewN (h : Bw Pt s b r out pend w) (n : Nat) : Bw Pt s b r out pend (w.drewN n) := ⟨h.bf, h.pb, h.pr, h.le, h.blk, h.row, h.inn⟩
theorem Bw.drew (h : Bw Pt s b r out pend w) : Bw Pt s b r out pend w.drew := ⟨h.bf, h.pb, h.pr, h.le, h.blk, h.row, h.inn⟩
theorem Bf.drew {Qt : Nat → Prop} {u : Nat} {o : List UInt8} {W : World} (h : Bf Qt u o W) : Bf Qt u o W.drew := h
theorem Bw.rb (h : Bw Pt s b r out pend w) : r ≠ b := by
  obtain ⟨cur, hr, _⟩ := h.row
  intro e
  have := h.blk
  rw [← e, hr] at this
  simp at this
theorem Bw.sb (h : Bw Pt s b r out pend w) : s ≠ b := fun e => h.bf.1 (.inr (.inl e))
theorem Bw.sr (h : Bw Pt s b r out pend w) : s ≠ r := fun e => h.bf.1 (.inr (.inr e))
theorem Bw.inn2 (h : Bw Pt s b r out pend w) : ∀ k, And2 Pt b r k → k < w.heap.size := by
  obtain ⟨cur, hr, _⟩ := h.row
  intro k hk
  rcases hk with hk | rfl | rfl
  · exact h.inn k hk
  · exact Lib.lt_of_heap h.blk
  · exact Lib.lt_of_heap hr

/-- Behind a write to the sink. -/
theorem Bw.sunk {o2 : List UInt8} (h : Bw Pt s b r out pend w) (hf : Bf (And2 Pt b r) s o2 w') (hk : Kept (And2 Pt b r) w w') : Bw Pt s b r o2 pend w' := by
  obtain ⟨cur, hr, h1, h2⟩ := h.row
  exact ⟨hf, h.pb, h.pr, h.le, (hk.block b (.inr (.inl rfl))).trans h.blk, ⟨cur, (hk.block r (.inr (.inr rfl))).trans hr, h1, h2⟩, fun k hp => Nat.lt_of_lt_of_le (h.inn k hp) hk.size⟩

/-- 'b.n' set to a number of cells that the row holds as 'p2'. -/
theorem Bw.setN {p2 : List UInt8} (h : Bw Pt s b r out pend w) (h2 : p2.length ≤ 65536) (hc : ∃ cur, w.heap[r]? = some (.cells cur 5 (0, 0)) ∧ cur.size = 65536 ∧ cur.toList.take p2.length = Lib.byteCells p2) :
    Bw Pt s b r out p2 (w.setCell ⟨b, 2, none⟩ (.int .i64 p2.length)) := by
  obtain ⟨cur, hr, h3, h4⟩ := hc
  refine ⟨h.bf.old fun k hk hp _ => ⟨Below.heap_setCell _ _ _ _ (fun e => hp (.inr (.inl e))), hp⟩, h.pb, h.pr, h2, Lib.heap_setCell_same (i := 2) h.blk _, ⟨cur, ?_, h3, h4⟩, fun k hp => by simpa [World.setCell] using h.inn k hp⟩
  rw [Below.heap_setCell _ _ _ _ h.rb]
  exact hr
end

/-- What Available answers. -/
def avl (pend : List UInt8) : Int := 65536 - pend.length

set_option maxHeartbeats 400000 in
theorem available (Pt : Nat → Prop) (s b r : Nat) (out pend : List UInt8) (w : World) (h : Bw Pt s b r out pend w) :
    Calls Tryd.prog 44 #[.pointer (some ⟨b, 0, none⟩)] w fun e w' => e = .returned (.int .i64 (avl pend)) ∧ Bw Pt s b r out pend w' ∧ Kept Pt w w' := by
  have c1 := h.c1
  have c2 := h.c2
  have hle := h.le
  go_enter Tryd.func44, Tryd.ntmps44
  go_wp2
  go_quiet (fail)
  go_wp2
  go_ret
  exact ⟨rfl, h.drewN _, (Kept.refl Pt w).drewN _⟩

set_option maxHeartbeats 400000 in
theorem buffered (Pt : Nat → Prop) (s b r : Nat) (out pend : List UInt8) (w : World) (h : Bw Pt s b r out pend w) :
    Calls Tryd.prog 45 #[.pointer (some ⟨b, 0, none⟩)] w fun e w' => e = .returned (.int .i64 pend.length) ∧ w' = w := by
  have c2 := h.c2
  go_enter Tryd.func45, Tryd.ntmps45
  go_wp2
  go_ret
  exact ⟨rfl, rfl⟩

set_option maxHeartbeats 400000 in
theorem flush_none (Pt : Nat → Prop) (s b r : Nat) (out : List UInt8) (w : World) (h : Bw Pt s b r out [] w) :
    Calls Tryd.prog 37 #[.pointer (some ⟨b, 0, none⟩)] w fun e w' => e = .returned .nilIface ∧ w' = w := by
  have c0 := h.c0
  have c2 := h.c2
  go_enter Tryd.func37, Tryd.ntmps37
  go_wp2
  go_ret
  exact ⟨rfl, rfl⟩

theorem method_write (a : Addr) (w : World) : (method 228 26 (.pointer (some a)) "Write").run Tryd.prog w = .ok (77, .pointer (some a)) w := by kernel_rfl
theorem method_writeString (a : Addr) (w : World) : (method 228 26 (.pointer (some a)) "WriteString").run Tryd.prog w = .ok (78, .pointer (some a)) w := by kernel_rfl

set_option maxHeartbeats 1600000 in
set_option maxRecDepth 100000 in
theorem flush_some (Pt : Nat → Prop) (s b r : Nat) (out pend : List UInt8) (w : World) (h : Bw Pt s b r out pend w) (h1 : 1 ≤ pend.length) (hlim : out.length + pend.length ≤ 140737488355328) :
    Calls Tryd.prog 37 #[.pointer (some ⟨b, 0, none⟩)] w fun e w' => e = .returned .nilIface ∧ Bw Pt s b r (out ++ pend) [] w' ∧ Kept Pt w w' := by
  have c0 := h.c0
  have c1 := h.c1
  have c2 := h.c2
  have c3 := h.c3
  have hle := h.le
  have hle' : (pend.length : Int) ≤ 65536 := by omega
  have hn0 : ((pend.length : Int) == 0) = false := beq_eq_false_iff_ne.2 (by omega)
  have hpos : (0 : Int) < pend.length := by omega
  have hm := method_write ⟨s, 0, none⟩
  have hsrc : ∀ j v, (Lib.byteCells pend)[j]? = some v → w.cell? ((⟨r, 0, none⟩ : Addr).add j) = some v := by
    obtain ⟨cur, hr, h3, h4⟩ := h.row
    intro j v hj
    exact Lib.cells_of_row hr pend.length j v (by rw [h4]; exact hj)
  go_enter Tryd.func37, Tryd.ntmps37
  go_wp2
  go_region_held3 (fun w' => w'.cell? ⟨b, 1, none⟩ = some (.slice (some ⟨r, 0, none⟩) 65536 65536) ∧ w'.cell? ⟨b, 2, none⟩ = some (.int .i64 pend.length) ∧ w'.cell? ⟨b, 3, none⟩ = some (.iface 26 (.pointer (some ⟨s, 0, none⟩)))) (go_keep) ((
    go_at_call 77
    refine (buf_write (And2 Pt b r) s out pend ⟨r, 0, none⟩ 65536 _ ?_ ?_ (Ne.symm h.sr) ?_ h1 hlim).mono ?_
    exact h.bf.drew
    exact h.inn2
    exact hsrc
    rintro e w2 ⟨rfl, hF, hK⟩
    have d0 : w2.cell? ⟨b, 0, none⟩ = some .nilIface := (hK.cell (p := ⟨b, 0, none⟩) (.inr (.inl rfl))).trans c0
    have d1 : w2.cell? ⟨b, 1, none⟩ = some (.slice (some ⟨r, 0, none⟩) 65536 65536) := (hK.cell (p := ⟨b, 1, none⟩) (.inr (.inl rfl))).trans c1
    have d2 : w2.cell? ⟨b, 2, none⟩ = some (.int .i64 pend.length) := (hK.cell (p := ⟨b, 2, none⟩) (.inr (.inl rfl))).trans c2
    have d3 : w2.cell? ⟨b, 3, none⟩ = some (.iface 26 (.pointer (some ⟨s, 0, none⟩))) := (hK.cell (p := ⟨b, 3, none⟩) (.inr (.inl rfl))).trans c3))
  have hK := hK.offDrew
  have h2 : Bw Pt s b r (out ++ pend) pend w2 := h.sunk hF hK
  have f2 := h2.f 2
  go_wp2
  go_ret
  refine ⟨rfl, ?_, (hK.mono fun k hk => .inl hk).setCell (p := ⟨b, 2, none⟩) h.pb _⟩
  obtain ⟨cur, hr, h3, h4⟩ := h2.row
  exact h2.setN (p2 := []) (by simp) ⟨cur, hr, h3, by simp [Lib.byteCells]⟩

/-- Flush, whatever waits. -/
theorem flush (Pt : Nat → Prop) (s b r : Nat) (out pend : List UInt8) (w : World) (h : Bw Pt s b r out pend w) (hlim : out.length + pend.length ≤ 140737488355328) :
    Calls Tryd.prog 37 #[.pointer (some ⟨b, 0, none⟩)] w fun e w' => e = .returned .nilIface ∧ Bw Pt s b r (out ++ pend) [] w' ∧ Kept Pt w w' := by
  rcases pend with _ | ⟨c, l⟩
  · refine (flush_none Pt s b r out w h).mono ?_
    rintro e w' ⟨rfl, rfl⟩
    exact ⟨rfl, by rw [List.append_nil]; exact h, Kept.refl _ _⟩
  · exact flush_some Pt s b r out (c :: l) w h (by simp) hlim

end Go.Proofs.Qxb6616850aDoor
