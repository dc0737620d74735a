/-
  What has reached the sink, copied: the two calls 'zzCopyBytes(resp.ZZSinkBytes(sink))', at this dump.
-/
import Derived.Test.Qxb6616850aDoorResp
import Derived.Test.Qxb6616850aDoorSl
namespace Go.Proofs.Qxb6616850aDoor
open Go.RowKit

/-- A slice value that reads as these bytes (nil where there is none). -/
def SinkV (out : List UInt8) (v : Value) (w : World) : Prop := (out = [] ∧ v = .slice none 0 0) ∨ ∃ g cap, v = .slice (some ⟨g, 0, none⟩) out.length cap ∧ Rd out g 0 w ∧ g < w.heap.size

theorem Hush.kept {w w' : World} (h : Hush w w') (Pt : Nat → Prop) : Kept Pt w w' := by obtain ⟨n, rfl⟩ := h; exact (Kept.refl Pt w).drewN n

theorem sink17 (Pt : Nat → Prop) (s b r q : Nat) (sv : Value) (out pend : List UInt8) (w : World) (h : Rw Pt s b r q sv out pend w) :
    Calls Tryd.prog 17 #[.pointer (some ⟨s, 0, none⟩)] w fun e w' => ∃ v, e = .returned v ∧ SinkV out v w' ∧ Rw Pt s b r q sv out pend w' ∧ Kept Pt w w' := by
  refine (sinkBytes _ s out w h.bw.bf).mono ?_
  rintro e w1 ⟨⟨n, hw⟩, ⟨ho, rfl⟩ | ⟨g, cap, cur, rfl, h2, h3, h4, h5⟩⟩
  · subst hw
    exact ⟨_, rfl, .inl ⟨ho, rfl⟩, h.drewN n, (Kept.refl Pt w).drewN n⟩
  · subst hw
    exact ⟨_, rfl, .inr ⟨g, cap, rfl, (Rd.of_row h2 h4.out), Lib.lt_of_heap h2⟩, h.drewN n, (Kept.refl Pt w).drewN n⟩

/-- What a copy leaves: a new row that holds just these bytes; every old block as it was. -/
def Copied (out : List UInt8) (w w' : World) : Prop :=
  w'.heap[w.heap.size]? = some (.cells (Lib.byteCells out).toArray 5 (0, 0)) ∧ Below w.heap.size w w' ∧ w'.heap.size = w.heap.size + 1

theorem copy16 (out : List UInt8) (v : Value) (w : World) (h : SinkV out v w) (n : Nat) (hn : out.length = n) (hl : n ≤ 16777216) :
    Calls Tryd.prog 16 #[v] w fun e w' => e = .returned (.slice (some ⟨w.heap.size, 0, none⟩) n n) ∧ Copied out w w' := by
  subst hn
  rcases h with ⟨rfl, rfl⟩ | ⟨g, cap, rfl, h1, h2⟩
  · exact copyBytes_nil w
  · exact copyBytes out g 0 cap w h1 h2 hl

section
variable {Pt : Nat → Prop} {s b r q : Nat} {sv : Value} {out pend o2 : List UInt8} {w w' : World}
theorem Copied.rd (h : Copied out w w') : Rd out w.heap.size 0 w' := Rd.of_cells h.1
theorem Copied.kept (h : Copied out w w') (hi : ∀ k, Pt k → k < w.heap.size) : Kept Pt w w' := (Kept.refl Pt w).below hi h.2.1
/-- The writer behind a copy: the new row may be protected. -/
theorem Copied.rw (h : Copied o2 w w') (hr : Rw Pt s b r q sv out pend w) : Rw (fun k => Pt k ∨ k = w.heap.size) s b r q sv out pend w' := by
  refine hr.wide (fun k hk => h.2.1.block k hk) h.2.1.size (fun k hk => ?_) (fun k hk => ?_)
  · rcases hk with hk | rfl
    · exact .inl hk
    · exact .inr (Nat.le_refl _)
  · have := h.2.2
    rcases hk with hk | rfl
    · have := hr.inn k hk; omega
    · omega
end

/-- A simple string's reply. -/
def reply (t : ByteArray) : List UInt8 := 43 :: (t.data.toList ++ [13, 10])
theorem reply_length (t : ByteArray) : (reply t).length = t.size + 3 := by
  have : t.data.toList.length = t.size := (Lib.size_eq t).symm
  simp [reply, this]
theorem reply_0 (t : ByteArray) : byteAt (reply t) 0 = 43 := rfl
theorem reply_13 (t : ByteArray) : byteAt (reply t) (t.size + 1) = 13 := by
  have h : t.data.toList.length = t.size := (Lib.size_eq t).symm
  unfold byteAt reply
  rw [List.getD_cons_succ, ← h]
  simp [List.getD]
theorem reply_10 (t : ByteArray) : byteAt (reply t) (t.size + 2) = 10 := by
  have h : t.data.toList.length = t.size := (Lib.size_eq t).symm
  unfold byteAt reply
  rw [List.getD_cons_succ, ← h]
  simp [List.getD]
theorem reply_mid (t : ByteArray) (k : Nat) (hk : k < t.size) : byteAt (reply t) (k + 1) = (t[k].toNat : Int) := by
  have h : t.data.toList.length = t.size := (Lib.size_eq t).symm
  unfold byteAt reply
  rw [List.getD_cons_succ, List.getD, List.getElem?_append_left (by omega), List.getElem?_eq_getElem (by omega)]
  rfl
theorem byteAt_right (l m : List UInt8) (k : Nat) : byteAt (l ++ m) (l.length + k) = byteAt m k := by
  unfold byteAt
  simp only [List.getD]
  rw [List.getElem?_append_right (by omega)]
  simp

theorem eqB (l : List UInt8) (n : Nat) (hn : l.length = n) (g1 o1 c1 g2 o2 c2 : Nat) (w : World) (h1 : Rd l g1 o1 w) (h2 : Rd l g2 o2 w) (hl : n ≤ 140737488355328) :
    Calls Tryd.prog 19 #[.slice (some ⟨g1, o1, none⟩) n c1, .slice (some ⟨g2, o2, none⟩) n c2] w fun e w' => e = .returned (.bool true) ∧ Hush w w' := by
  subst hn
  exact eqBytes l g1 o1 c1 g2 o2 c2 w h1 h2 hl
theorem hasP (l m : List UInt8) (n k : Nat) (hn : (l ++ m).length = n) (hk : l.length = k) (g1 o1 c1 g2 o2 c2 : Nat) (w : World) (h1 : Rd (l ++ m) g1 o1 w) (h2 : Rd l g2 o2 w) (hl : n ≤ 140737488355328) :
    Calls Tryd.prog 18 #[.slice (some ⟨g1, o1, none⟩) n c1, .slice (some ⟨g2, o2, none⟩) k c2] w fun e w' => e = .returned (.bool true) ∧ Hush w w' := by
  subst hk
  exact hasPrefix l m g1 o1 c1 g2 o2 c2 w h1 h2 n hn hl
theorem Hush.trans {w w' w2 : World} (h : Hush w w') (k : Hush w' w2) : Hush w w2 := by
  obtain ⟨n, rfl⟩ := h
  obtain ⟨m, rfl⟩ := k
  exact ⟨n + m, by simp⟩

end Go.Proofs.Qxb6616850aDoor
