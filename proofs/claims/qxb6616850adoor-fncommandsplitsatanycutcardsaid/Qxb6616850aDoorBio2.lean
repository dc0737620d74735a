/-
  bufio.Writer over a bytes.Buffer, at this dump: WriteByte.
-/
import Derived.Test.Qxb6616850aDoorBio
namespace Go.Proofs.Qxb6616850aDoor
open Go.RowKit

section
variable {Pt : Nat → Prop} {s b r : Nat} {out pend : List UInt8} {w w' : World}

/-- The row's cells written over, the sink and the struct as they were. -/
theorem Bw.setRow2 {p2 : List UInt8} {arr : Array Value} (h : Bw Pt s b r out pend w) (hp : p2.length ≤ 65536) (hs : arr.size = 65536) (ht : arr.toList.take p2.length = Lib.byteCells p2) :
    Bw Pt s b r out p2 ((w.setRow r arr).setCell ⟨b, 2, none⟩ (.int .i64 p2.length)) := by
  obtain ⟨cur, hr, h3, h4⟩ := h.row
  have hrb := h.rb
  refine ⟨h.bf.old fun k hk hp _ => ⟨?_, hp⟩, h.pb, h.pr, hp, ?_, ⟨arr, ?_, hs, ht⟩, fun k hp => by simpa [World.setCell] using h.inn k hp⟩
  · rw [Below.heap_setCell _ _ _ _ (fun e => hp (.inr (.inl e))), setRow_other _ _ _ _ (fun e => hp (.inr (.inr e)))]
  · have := h.blk
    rw [← setRow_other w r b arr (Ne.symm hrb)] at this
    exact Lib.heap_setCell_same (i := 2) this _
  · rw [Below.heap_setCell _ _ _ _ hrb]
    exact setRow_heap w r cur _ 5 (0, 0) hr
end

theorem Bw.cellR {Pt : Nat → Prop} {s b r : Nat} {out pend : List UInt8} {w : World} (h : Bw Pt s b r out pend w) (i : Nat) (hi : i < 65536) : ∃ v, w.cell? ⟨r, i, none⟩ = some v ∧ w.frozen? ⟨r, i, none⟩ = false := by
  obtain ⟨cur, hr, h3, h4⟩ := h.row
  refine ⟨cur[i]'(by omega), ?_, Lib.frozen_of_heap hr i⟩
  rw [Lib.cell_of_heap hr]
  simp [h3, hi]

/-- One byte put into the row, 'b.n' raised. -/
theorem Bw.push {Pt : Nat → Prop} {s b r : Nat} {out pend : List UInt8} {w : World} (c : UInt8) (h : Bw Pt s b r out pend w) (hp : pend.length < 65536) :
    Bw Pt s b r out (pend ++ [c]) ((w.setCell ⟨r, pend.length, none⟩ (.int .u8 c.toNat)).setCell ⟨b, 2, none⟩ (.int .i64 (pend.length + 1))) := by
  obtain ⟨cur, hr, h3, h4⟩ := h.row
  have hrb := h.rb
  have hl : (pend ++ [c]).length = pend.length + 1 := by simp
  have hri := Lib.heap_setCell_same (i := pend.length) hr (.int .u8 c.toNat)
  refine ⟨h.bf.old fun k hk hp _ => ⟨?_, hp⟩, h.pb, h.pr, by omega, ?_, ⟨cur.setIfInBounds pend.length (.int .u8 c.toNat), ?_, by simpa using h3, ?_⟩, fun k hp => by simpa [World.setCell] using h.inn k hp⟩
  · rw [Below.heap_setCell _ _ _ _ (fun e => hp (.inr (.inl e))), Below.heap_setCell _ _ _ _ (fun e => hp (.inr (.inr e)))]
  · have := h.blk
    rw [← Below.heap_setCell w ⟨r, pend.length, none⟩ (.int .u8 c.toNat) b (Ne.symm hrb)] at this
    have h5 := Lib.heap_setCell_same (i := 2) this (.int .i64 (pend.length + 1))
    rw [h5, hl]
    simp
  · rw [Below.heap_setCell _ _ _ _ hrb]
    exact hri
  · have hll : pend.length < cur.toList.length := by have : cur.toList.length = cur.size := Array.length_toList; omega
    rw [hl, Array.toList_setIfInBounds, List.take_add_one, List.take_set_of_le (Nat.le_refl _), List.getElem?_set_self hll, h4]
    simp [Lib.byteCells]

set_option maxHeartbeats 800000 in
set_option maxRecDepth 100000 in
theorem writeByte_room (Pt : Nat → Prop) (s b r : Nat) (out pend : List UInt8) (c : UInt8) (v : Int) (hv : (c.toNat : Int) = v) (w : World) (h : Bw Pt s b r out pend w) (hroom : pend.length < 65536) :
    Calls Tryd.prog 35 #[.pointer (some ⟨b, 0, none⟩), .int .u8 v] w fun e w' => e = .returned .nilIface ∧ Bw Pt s b r out (pend ++ [c]) w' ∧ Kept Pt w w' := by
  subst hv
  have hav : ¬ avl pend ≤ 0 := by unfold avl; omega
  have c0 := h.c0
  go_enter Tryd.func35, Tryd.ntmps35
  go_wp2_with (go_at_call 44; refine (available Pt s b r out pend _ h).mono ?_; rintro e w1 ⟨rfl, h1, hK1⟩; refine Hid.out ?_)
  refine Lib.hid ?_
  go_wp2
  have d1 := h1.c1
  have d2 := h1.c2
  have f2 := h1.f 2
  have hrb := h1.rb
  have hbr := Ne.symm hrb
  obtain ⟨x, hx, hxf⟩ := h1.cellR pend.length hroom
  have hi0 : (0 : Int) ≤ pend.length := by omega
  have hi1 : (pend.length : Int) < 65536 := by omega
  go_region_held3 (fun w' => w'.cell? ⟨b, 1, none⟩ = some (.slice (some ⟨r, 0, none⟩) 65536 65536) ∧ w'.cell? ⟨b, 2, none⟩ = some (.int .i64 pend.length)) (go_keep) (fail)
  go_wp2
  go_ret
  exact ⟨rfl, (h1.push c hroom).drew, ((hK1.setCell (p := ⟨r, pend.length, none⟩) h.pr _).setCell (p := ⟨b, 2, none⟩) h.pb _).drew⟩

set_option maxHeartbeats 800000 in
set_option maxRecDepth 100000 in
theorem writeByte_full (Pt : Nat → Prop) (s b r : Nat) (out pend : List UInt8) (c : UInt8) (v : Int) (hv : (c.toNat : Int) = v) (w : World) (h : Bw Pt s b r out pend w) (hfull : pend.length = 65536)
    (hlim : out.length + pend.length ≤ 140737488355328) :
    Calls Tryd.prog 35 #[.pointer (some ⟨b, 0, none⟩), .int .u8 v] w fun e w' => e = .returned .nilIface ∧ Bw Pt s b r (out ++ pend) [c] w' ∧ Kept Pt w w' := by
  subst hv
  have hav : avl pend ≤ 0 := by unfold avl; omega
  clear hfull
  have c0 := h.c0
  go_enter Tryd.func35, Tryd.ntmps35
  go_wp2_with (go_at_call 44; refine (available Pt s b r out pend _ h).mono ?_; rintro e w1 ⟨rfl, h1, hK1⟩; refine Hid.out ?_)
  refine Lib.hid ?_
  go_wp2_with (go_at_call 37; refine (flush Pt s b r out pend _ h1 hlim).mono ?_; rintro e w2 ⟨rfl, h2, hK2⟩; refine Hid.out ?_)
  refine Lib.hid ?_
  have hK := hK1.trans hK2
  clear h1 hK1 hK2
  go_wp2
  have d1 := h2.c1
  have d2 : w2.cell? ⟨b, 2, none⟩ = some (.int .i64 0) := h2.c2
  have f2 := h2.f 2
  have hrb := h2.rb
  have hbr := Ne.symm hrb
  obtain ⟨x, hx, hxf⟩ := h2.cellR 0 (by omega)
  have hP := h2.push c (by simp)
  have HP := Lib.hid hP
  clear hP
  go_region_held3 (fun w' => w'.cell? ⟨b, 1, none⟩ = some (.slice (some ⟨r, 0, none⟩) 65536 65536) ∧ w'.cell? ⟨b, 2, none⟩ = some (.int .i64 0)) (go_keep) (fail)
  go_wp2
  go_ret
  exact ⟨rfl, HP.out.drew, ((hK.setCell (p := ⟨r, 0, none⟩) h.pr _).setCell (p := ⟨b, 2, none⟩) h.pb _).drew⟩

/-- WriteByte: what has reached the sink and what waits, taken together, is one byte longer; nothing reaches the sink while there is room. -/
theorem writeByte (Pt : Nat → Prop) (s b r : Nat) (out pend : List UInt8) (c : UInt8) (v : Int) (hv : (c.toNat : Int) = v) (w : World) (h : Bw Pt s b r out pend w)
    (hlim : out.length + pend.length ≤ 140737488355328) :
    Calls Tryd.prog 35 #[.pointer (some ⟨b, 0, none⟩), .int .u8 v] w fun e w' => e = .returned .nilIface ∧ ∃ o2 p2, Bw Pt s b r o2 p2 w' ∧ o2 ++ p2 = out ++ pend ++ [c] ∧ (pend.length + 1 ≤ 65536 → o2 = out) ∧ Kept Pt w w' := by
  by_cases hr : pend.length < 65536
  · refine (writeByte_room Pt s b r out pend c v hv w h hr).mono ?_
    rintro e w' ⟨rfl, h1, hK⟩
    exact ⟨rfl, out, pend ++ [c], h1, by simp, fun _ => rfl, hK⟩
  · have hle := h.le
    refine (writeByte_full Pt s b r out pend c v hv w h (by omega) hlim).mono ?_
    rintro e w' ⟨rfl, h1, hK⟩
    exact ⟨rfl, out ++ pend, [c], h1, rfl, fun h => absurd h (by omega), hK⟩

end Go.Proofs.Qxb6616850aDoor
