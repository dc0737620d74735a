/-
  Worlds, no dump: 'Kept Pt w w'': the protected blocks stand as they stood. 'Bf': a bytes.Buffer that has only been written, its row told. What grow leaves.
-/
import Derived.Lib.BufferOwn
import Derived.Lib.BufferWrite
import Derived.Lib.Hide
import Derived.WalkKit
import Derived.Deep.Draws
namespace Go.Proofs.Qxb6616850aDoor
open Go.RowKit

/-- The protected blocks stand as they stood; the streams too; no block has gone. -/
structure Kept (Pt : Nat → Prop) (w w' : World) : Prop where
  os : w'.os = w.os
  tape : w'.tape = w.tape
  output : w'.output = w.output
  size : w.heap.size ≤ w'.heap.size
  block : ∀ k, Pt k → w'.heap[k]? = w.heap[k]?

theorem Kept.refl (Pt : Nat → Prop) (w : World) : Kept Pt w w := ⟨rfl, rfl, rfl, Nat.le_refl _, fun _ _ => rfl⟩
theorem Kept.trans {Pt : Nat → Prop} {a b c : World} (h : Kept Pt a b) (k : Kept Pt b c) : Kept Pt a c :=
  ⟨k.os.trans h.os, k.tape.trans h.tape, k.output.trans h.output, Nat.le_trans h.size k.size, fun i hi => (k.block i hi).trans (h.block i hi)⟩
theorem Kept.mono {Pt Qt : Nat → Prop} {a b : World} (h : Kept Pt a b) (k : ∀ i, Qt i → Pt i) : Kept Qt a b :=
  ⟨h.os, h.tape, h.output, h.size, fun i hi => h.block i (k i hi)⟩
theorem Kept.drew {Pt : Nat → Prop} {a w : World} (h : Kept Pt a w) : Kept Pt a w.drew := ⟨h.os, h.tape, h.output, h.size, h.block⟩
theorem Kept.drewN {Pt : Nat → Prop} {a w : World} (h : Kept Pt a w) (n : Nat) : Kept Pt a (w.drewN n) := ⟨h.os, h.tape, h.output, h.size, h.block⟩
theorem Kept.offDrew {Pt : Nat → Prop} {a w : World} (h : Kept Pt a.drew w) : Kept Pt a w := ⟨h.os, h.tape, h.output, h.size, h.block⟩
theorem Kept.offDrewN {Pt : Nat → Prop} {a w : World} {n : Nat} (h : Kept Pt (a.drewN n) w) : Kept Pt a w := ⟨h.os, h.tape, h.output, h.size, h.block⟩
theorem Kept.setCell {Pt : Nat → Prop} {a w : World} (h : Kept Pt a w) {p : Addr} (hp : ¬ Pt p.block) (u : Value) : Kept Pt a (w.setCell p u) :=
  h.trans ⟨rfl, rfl, rfl, by simp [World.setCell], fun k hk => Below.heap_setCell _ _ _ _ (fun e => hp (e ▸ hk))⟩
theorem Kept.setRow {Pt : Nat → Prop} {a w : World} (h : Kept Pt a w) {g : Nat} (hp : ¬ Pt g) (arr : Array Value) : Kept Pt a (w.setRow g arr) :=
  h.trans ⟨rfl, rfl, rfl, by simp, fun k hk => setRow_other _ _ _ _ (fun e => hp (e ▸ hk))⟩
theorem Kept.alloc {Pt : Nat → Prop} {a w : World} (h : Kept Pt a w) (hi : ∀ k, Pt k → k < a.heap.size) (o : Obj) : Kept Pt a (w.alloc o) :=
  h.trans ⟨rfl, rfl, rfl, by simp, fun k hk => Below.heap_alloc _ _ _ (Nat.lt_of_lt_of_le (hi k hk) h.size)⟩
theorem Kept.below {Pt : Nat → Prop} {a w w' : World} (h : Kept Pt a w) (hi : ∀ k, Pt k → k < a.heap.size) (hb : Below w.heap.size w w') : Kept Pt a w' :=
  h.trans ⟨hb.os, hb.tape, hb.output, hb.size, fun k hk => hb.block k (Nat.lt_of_lt_of_le (hi k hk) h.size)⟩
theorem Kept.grown {Pt : Nat → Prop} {a w w' : World} {row : Option Nat} (h : Kept Pt a w) (hi : ∀ k, Pt k → k < a.heap.size) (hg : w.grownBy w' row) (hr : ∀ k, row = some k → ¬ Pt k) : Kept Pt a w' :=
  h.trans ⟨hg.os, hg.tape, hg.output, hg.size, fun k hk => hg.block k (Nat.lt_of_lt_of_le (hi k hk) h.size) (fun e => hr k e.symm hk)⟩
theorem Kept.cell {Pt : Nat → Prop} {w w' : World} (h : Kept Pt w w') {p : Addr} (hp : Pt p.block) : w'.cell? p = w.cell? p := World.cell?_of_block (w := w) (h.block p.block hp)
theorem Kept.frozen {Pt : Nat → Prop} {w w' : World} (h : Kept Pt w w') {p : Addr} (hp : Pt p.block) : w'.frozen? p = w.frozen? p := World.frozen?_of_block (w := w) (h.block p.block hp)
/-- Where every block below B is protected. -/
theorem Kept.toBelow {Pt : Nat → Prop} {w w' : World} (h : Kept Pt w w') {B : Nat} (hB : ∀ k, k < B → Pt k) : Below B w w' :=
  ⟨h.os, h.tape, h.output, h.size, fun k hk => h.block k (hB k hk)⟩

/-- What grow leaves: a new row. -/
def Grew (b l n : Nat) (bs : List Value) (w w' : World) : Prop :=
  ∃ g cap cur lr, w.heap.size ≤ g ∧ w'.heap[b]? = some (.cells #[.slice (some ⟨g, 0, none⟩) (l + n) cap, .int .i64 0, .int .i8 lr] 55 (0, 0)) ∧ w'.heap[g]? = some (.cells cur 5 (0, 0)) ∧
    cur.size = cap ∧ l + n ≤ cap ∧ cap ≤ maxLen ∧ cur.toList.take l = bs ∧ w.grownBy w' (some b)

theorem grew_end {b N l n cap2 : Nat} {lr : Int} {w w2 : World} {v0 : Value} {cells : Array Value} {bs : List Value}
    (hbk2 : w2.heap[b]? = some (.cells #[v0, .int .i64 0, .int .i8 lr] 55 (0, 0))) (hN : w2.heap[N]? = some (.cells cells 5 (0, 0))) (hNw : w.heap.size ≤ N) (hNb : N ≠ b)
    (hcsz : cells.size = cap2) (htk : cells.toList.take l = bs) (hcap2 : l + n ≤ cap2) (hcm2 : cap2 ≤ maxLen) (hg : w.grownBy w2 (some b)) (v1 : Value) :
    Grew b l n bs w (((w2.setCell ⟨b, 0, none⟩ v1).setCell ⟨b, 1, none⟩ (.int .i64 0)).setCell ⟨b, 0, none⟩ (.slice (some ⟨N, 0, none⟩) (l + n) cap2)) := by
  have hbkf := Lib.heap_setCell_same (i := 0) (Lib.heap_setCell_same (i := 1) (Lib.heap_setCell_same (i := 0) hbk2 v1) (.int .i64 0)) (.slice (some ⟨N, 0, none⟩) (l + n) cap2)
  refine ⟨N, cap2, cells, lr, hNw, hbkf, ?_, hcsz, hcap2, hcm2, htk, Lib.grownBy_setB (Lib.grownBy_setB (Lib.grownBy_setB hg 0 _) 1 _) 0 _⟩
  rw [Below.heap_setCell _ _ _ _ hNb, Below.heap_setCell _ _ _ _ hNb, Below.heap_setCell _ _ _ _ hNb]
  exact hN

theorem grew_small_end {b n cap : Nat} {lr : Int} {w W : World} {v0 : Value} {M : Array Value}
    (hbkW : W.heap[b]? = some (.cells #[v0, .int .i64 0, .int .i8 lr] 55 (0, 0))) (hwW : w.heap.size ≤ W.heap.size) (hMs : M.size = cap) (hn : n ≤ cap) (hcm : cap ≤ maxLen) (hg : w.grownBy W (some b)) :
    Grew b 0 n [] w ((W.setCell ⟨b, 0, none⟩ (.slice (some ⟨W.heap.size, 0, none⟩) n cap)).alloc (.cells M 5)) := by
  have hbW := Lib.lt_of_heap hbkW
  have hsz : (W.setCell ⟨b, 0, none⟩ (.slice (some ⟨W.heap.size, 0, none⟩) n cap)).heap.size = W.heap.size := by simp [World.setCell]
  refine ⟨W.heap.size, cap, M, lr, hwW, ?_, ?_, hMs, by omega, hcm, by simp, Lib.grownBy_allocR (Lib.grownBy_setB hg 0 _) _⟩
  · rw [Below.heap_alloc _ _ b (by rw [hsz]; exact hbW), Nat.zero_add]
    exact Lib.heap_setCell_same (i := 0) hbkW _
  · have h := heap_alloc_new (W.setCell ⟨b, 0, none⟩ (.slice (some ⟨W.heap.size, 0, none⟩) n cap)) (.cells M 5)
    rw [hsz] at h
    exact h

/-- A bytes.Buffer that has only been written: in block b, its row neither protected nor its own block; nil while nothing has been written. -/
def Bf (Pt : Nat → Prop) (b : Nat) (out : List UInt8) (w : World) : Prop :=
  ¬ Pt b ∧ ∃ lr, (out = [] ∧ w.heap[b]? = some (.cells #[.slice none 0 0, .int .i64 0, .int .i8 lr] 55 (0, 0))) ∨
    ∃ g cap cur, w.heap[b]? = some (.cells #[.slice (some ⟨g, 0, none⟩) out.length cap, .int .i64 0, .int .i8 lr] 55 (0, 0)) ∧ w.heap[g]? = some (.cells cur 5 (0, 0)) ∧
      1 ≤ out.length ∧ out.length ≤ cap ∧ cap ≤ maxLen ∧ cur.size = cap ∧ cur.toList.take out.length = Lib.byteCells out ∧ g ≠ b ∧ ¬ Pt g

theorem Bf.lt {Pt : Nat → Prop} {b : Nat} {out : List UInt8} {w : World} (h : Bf Pt b out w) : b < w.heap.size := by
  obtain ⟨_, lr, ⟨_, h⟩ | ⟨g, cap, cur, h, _⟩⟩ := h <;> exact Lib.lt_of_heap h

/-- The buffer over a step that keeps its own blocks. -/
theorem Bf.old {Pt Qt : Nat → Prop} {b : Nat} {out : List UInt8} {w w' : World} (h : Bf Pt b out w) (hk : ∀ k, k < w.heap.size → ¬ Pt k → (k = b ∨ ∃ cur, w.heap[k]? = some (.cells cur 5 (0, 0))) → w'.heap[k]? = w.heap[k]? ∧ ¬ Qt k) : Bf Qt b out w' := by
  have hlt := h.lt
  obtain ⟨hb, lr, hc⟩ := h
  obtain ⟨e0, q0⟩ := hk b hlt hb (.inl rfl)
  refine ⟨q0, lr, ?_⟩
  rcases hc with ⟨h0, h1⟩ | ⟨g, cap, cur, h1, h2, h3, h4, h5, h6, h7, h8, h9⟩
  · exact .inl ⟨h0, e0.trans h1⟩
  · obtain ⟨e1, q1⟩ := hk g (Lib.lt_of_heap h2) h9 (.inr ⟨cur, h2⟩)
    exact .inr ⟨g, cap, cur, e0.trans h1, e1.trans h2, h3, h4, h5, h6, h7, h8, q1⟩

end Go.Proofs.Qxb6616850aDoor
