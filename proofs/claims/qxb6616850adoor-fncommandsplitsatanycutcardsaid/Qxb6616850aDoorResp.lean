/-
  resp.Writer over bufio.Writer over bytes.Buffer, at this dump: 'Rw'. NewSink, NewWriter, SimpleString, Flush, SinkBytes.
-/
import Derived.Test.Qxb6616850aDoorBio3
namespace Go.Proofs.Qxb6616850aDoor
open Go.RowKit

/-- The protected blocks, the writer's own block and its scratch row. -/
def Scr (Pt : Nat → Prop) (q : Nat) (sv : Value) : Nat → Prop := fun k => Pt k ∨ k = q ∨ sv.ownBlock = some k

/-- A resp.Writer in block q (its scratch slice: sv) over a bufio.Writer (block b, row r) over the sink s. -/
structure Rw (Pt : Nat → Prop) (s b r q : Nat) (sv : Value) (out pend : List UInt8) (w : World) : Prop where
  bw : Bw (Scr Pt q sv) s b r out pend w
  pq : ¬ Pt q
  pv : ∀ g, sv.ownBlock = some g → ¬ Pt g ∧ g ≠ q
  blk : w.heap[q]? = some (.cells #[.pointer (some ⟨b, 0, none⟩), sv] 59 (0, 0))
  own : ∃ n xs, w.ownsRow 0 5 1 sv n xs

section
variable {Pt : Nat → Prop} {s b r q : Nat} {sv : Value} {out pend o2 p2 : List UInt8} {w w' : World}

theorem Rw.c0 (h : Rw Pt s b r q sv out pend w) : w.cell? ⟨q, 0, none⟩ = some (.pointer (some ⟨b, 0, none⟩)) := by rw [Lib.cell_of_heap h.blk]; rfl
theorem Rw.c1 (h : Rw Pt s b r q sv out pend w) : w.cell? ⟨q, 1, none⟩ = some sv := by rw [Lib.cell_of_heap h.blk]; rfl
theorem Rw.inn (h : Rw Pt s b r q sv out pend w) : ∀ k, Pt k → k < w.heap.size := fun k hk => h.bw.inn k (.inl hk)
theorem Rw.drewN (h : Rw Pt s b r q sv out pend w) (n : Nat) : Rw Pt s b r q sv out pend (w.drewN n) := ⟨h.bw.drewN n, h.pq, h.pv, h.blk, h.own⟩

theorem ownsRow_keep {v : Value} {n : Nat} {xs : List Value} (h : w.ownsRow 0 5 1 v n xs) (hk : ∀ g, v.ownBlock = some g → w'.heap[g]? = w.heap[g]?) : w'.ownsRow 0 5 1 v n xs := by
  refine ⟨h.1, ?_⟩
  rcases h.2 with hn | ⟨g, cap, cur, rfl, hb, hgg, rest⟩
  · exact .inl hn
  · exact .inr ⟨g, cap, cur, rfl, hb, (hk g rfl).trans hgg, rest⟩

/-- Behind a step of the bufio.Writer. -/
theorem Rw.next (h : Rw Pt s b r q sv out pend w) (hb : Bw (Scr Pt q sv) s b r o2 p2 w') (hk : Kept (Scr Pt q sv) w w') : Rw Pt s b r q sv o2 p2 w' := by
  obtain ⟨n, xs, ho⟩ := h.own
  exact ⟨hb, h.pq, h.pv, (hk.block q (.inr (.inl rfl))).trans h.blk, ⟨n, xs, ownsRow_keep ho fun g hg => hk.block g (.inr (.inr hg))⟩⟩

/-- New blocks may be protected: whatever was laid behind the writer's own blocks. -/
theorem Bw.wide {Qt : Nat → Prop} (h : Bw Pt s b r out pend w) (hk : ∀ k, k < w.heap.size → w'.heap[k]? = w.heap[k]?) (hq : ∀ k, Qt k → Pt k ∨ w.heap.size ≤ k) (hi : ∀ k, Qt k → k < w'.heap.size) : Bw Qt s b r out pend w' := by
  obtain ⟨cur, hr, h3, h4⟩ := h.row
  have hb := Lib.lt_of_heap h.blk
  have hrr := Lib.lt_of_heap hr
  refine ⟨h.bf.old fun k hl hp _ => ⟨hk k hl, fun hx => ?_⟩, fun hx => ?_, fun hx => ?_, h.le, (hk b hb).trans h.blk, ⟨cur, (hk r hrr).trans hr, h3, h4⟩, hi⟩
  · rcases hx with hx | rfl | rfl
    · rcases hq k hx with hx | hx
      · exact hp (.inl hx)
      · omega
    · exact hp (.inr (.inl rfl))
    · exact hp (.inr (.inr rfl))
  · rcases hq b hx with hx | hx
    · exact h.pb hx
    · omega
  · rcases hq r hx with hx | hx
    · exact h.pr hx
    · omega

theorem Rw.wide {Qt : Nat → Prop} (h : Rw Pt s b r q sv out pend w) (hk : ∀ k, k < w.heap.size → w'.heap[k]? = w.heap[k]?) (hs : w.heap.size ≤ w'.heap.size) (hq : ∀ k, Qt k → Pt k ∨ w.heap.size ≤ k) (hi : ∀ k, Qt k → k < w'.heap.size) : Rw Qt s b r q sv out pend w' := by
  obtain ⟨n, xs, ho⟩ := h.own
  have hqq := Lib.lt_of_heap h.blk
  have hvv : ∀ g, sv.ownBlock = some g → g < w.heap.size := fun g hg => (ho.lt g hg).2
  refine ⟨h.bw.wide hk ?_ ?_, fun hx => ?_, fun g hg => ⟨fun hx => ?_, (h.pv g hg).2⟩, (hk q hqq).trans h.blk, ⟨n, xs, ownsRow_keep ho fun g hg => hk g (hvv g hg)⟩⟩
  · intro k hx
    rcases hx with hx | hx | hx
    · rcases hq k hx with hx | hx
      · exact .inl (.inl hx)
      · exact .inr hx
    · exact .inl (.inr (.inl hx))
    · exact .inl (.inr (.inr hx))
  · intro k hx
    rcases hx with hx | hx | hx
    · exact hi k hx
    · subst hx; omega
    · have := hvv k hx; omega
  · rcases hq q hx with hx | hx
    · exact h.pq hx
    · omega
  · rcases hq g hx with hx | hx
    · exact (h.pv g hg).1 hx
    · have := hvv g hg; omega
end

set_option maxHeartbeats 400000 in
theorem rflush (Pt : Nat → Prop) (s b r q : Nat) (sv : Value) (out pend : List UInt8) (w : World) (h : Rw Pt s b r q sv out pend w) (hlim : out.length + pend.length ≤ 140737488355328) :
    Calls Tryd.prog 15 #[.pointer (some ⟨q, 0, none⟩)] w fun e w' => e = .returned .nilIface ∧ Rw Pt s b r q sv (out ++ pend) [] w' ∧ Kept Pt w w' := by
  have c0 := h.c0
  go_enter Tryd.func15, Tryd.ntmps15
  go_wp2_with (go_at_call 37; refine (flush (Scr Pt q sv) s b r out pend _ h.bw hlim).mono ?_; rintro e w1 ⟨rfl, h1, hK1⟩; refine Hid.out ?_)
  refine Lib.hid ?_
  go_wp2
  go_ret
  exact ⟨rfl, h.next h1 hK1, hK1.mono fun k hk => .inl hk⟩

set_option maxHeartbeats 800000 in
theorem simpleString (Pt : Nat → Prop) (s b r q : Nat) (sv : Value) (out pend : List UInt8) (t : ByteArray) (w : World) (h : Rw Pt s b r q sv out pend w) (hlim : out.length + pend.length + t.size + 3 ≤ 140737488355328) :
    Calls Tryd.prog 14 #[.pointer (some ⟨q, 0, none⟩), .string t] w fun e w' => e = .returned (.tuple #[]) ∧
      ∃ o2 p2, Rw Pt s b r q sv o2 p2 w' ∧ o2 ++ p2 = out ++ pend ++ (43 :: (t.data.toList ++ [13, 10])) ∧ (pend.length + t.size + 3 ≤ 65536 → o2 = out) ∧ Kept Pt w w' := by
  have c0 := h.c0
  go_enter Tryd.func14, Tryd.ntmps14
  go_wp2_with (go_at_call 35; refine (writeByte (Scr Pt q sv) s b r out pend 43 43 rfl _ h.bw (by omega)).mono ?_; rintro e w1 ⟨rfl, o1, p1, h1, l1, z1, k1⟩; refine Hid.out ?_)
  refine Lib.hid ?_
  have r1 := h.next h1 k1
  have n1 : Hid (o1.length + p1.length = out.length + pend.length + 1) := by have := congrArg List.length l1; simp only [List.length_append, List.length_singleton] at this; exact this
  have L1 := Lib.hid l1
  have Z1 := Lib.hid z1
  clear l1 z1 c0
  have c0 := r1.c0
  go_wp2_with (go_at_call 36; refine (writeString (Scr Pt q sv) s b r o1 p1 t _ r1.bw (by have := n1.out; omega)).mono ?_; rintro e w2 ⟨rfl, o2, p2, h2, l2, z2, k2⟩; refine Hid.out ?_)
  refine Lib.hid ?_
  have r2 := r1.next h2 k2
  have htt : t.data.toList.length = t.size := (Lib.size_eq t).symm
  have n2 : Hid (o2.length + p2.length = o1.length + p1.length + t.size) := by have := congrArg List.length l2; simp only [List.length_append, htt] at this; exact this
  have L2 := Lib.hid l2
  have Z2 := Lib.hid z2
  clear l2 z2 c0 htt
  have c0 := r2.c0
  go_wp2_with (go_at_call 36; refine (writeString (Scr Pt q sv) s b r o2 p2 ⟨#[13, 10]⟩ _ r2.bw (by have := n1.out; have := n2.out; show _ + 2 ≤ _; omega)).mono ?_; rintro e w3 ⟨rfl, o3, p3, h3, l3, z3, k3⟩; refine Hid.out ?_)
  refine Lib.hid ?_
  have r3 := r2.next h3 k3
  have L3 := Lib.hid l3
  have Z3 := Lib.hid z3
  clear l3 z3 c0
  go_wp2
  go_end0
  refine ⟨rfl, o3, p3, r3, ?_, ?_, ((k1.trans k2).trans k3).mono fun k hk => .inl hk⟩
  · rw [L3.out, L2.out, L1.out]
    simp
  · intro hz
    have e1 := Z1.out (by omega)
    have m1 := n1.out
    rw [e1] at m1
    have e2 := Z2.out (by omega)
    have m2 := n2.out
    rw [e2, e1] at m2
    have e3 := Z3.out (by show _ + 2 ≤ _; omega)
    rw [e3, e2, e1]

theorem newSink (w : World) : Calls Tryd.prog 12 #[] w fun e w' => e = .returned (.pointer (some ⟨w.heap.size, 0, none⟩)) ∧ Hid (w' = w.alloc (.cells #[.slice none 0 0, .int .i64 0, .int .i8 0] 55)) := by
  go_enter Tryd.func12, Tryd.ntmps12
  go_wp2
  go_ret
  exact ⟨rfl, Lib.hid rfl⟩

theorem assert_bw (a : Addr) (w : World) : (Instr.typeAssert (.iface 26 (.pointer (some a))) 71 57 true).run Tryd.prog w = .ok (.tuple #[.pointer none, .bool false]) w := by kernel_rfl

set_option maxHeartbeats 400000 in
theorem newWriterSize (s : Nat) (w : World) :
    Calls Tryd.prog 43 #[.iface 26 (.pointer (some ⟨s, 0, none⟩)), .int .i64 65536] w fun e w' => e = .returned (.pointer (some ⟨w.heap.size + 1, 0, none⟩)) ∧
      ∃ M, M.size = 65536 ∧ Hid (w' = (w.alloc (.cells M 5)).alloc (.cells #[.nilIface, .slice (some ⟨w.heap.size, 0, none⟩) 65536 65536, .int .i64 0, .iface 26 (.pointer (some ⟨s, 0, none⟩))] 74)) := by
  obtain ⟨i0, hi, hz0, hz1, hz2⟩ := info_parts Tryd.info5
  obtain ⟨M, hM⟩ : ∃ M, M = madeCells (Value.int .u8 0).cells ((65536 : Int).toNat * i0.size) := ⟨_, rfl⟩
  have hMs : M.size = 65536 := by rw [hM, size_madeCells, hz1]; rfl
  have hmk : ∀ W : World, (Instr.makeSlice 23 (.int .i64 65536) (.int .i64 65536)).run Tryd.prog W = .ok (.slice (some ⟨W.heap.size, 0, none⟩) 65536 65536) (W.alloc (.cells M 5)) := fun W => by
    have h := run_makeSlice (P := Tryd.prog) W 23 5 i0 (.int .u8 0) Tryd.underlying23 hi hz0 .i64 .i64 65536 65536 (by omega) (by omega) (by rw [hz1]; decide) (by rw [hz2]; decide) (by decide)
    rw [← hM] at h
    simpa using h
  clear hM
  have has := assert_bw ⟨s, 0, none⟩
  have HMs := Lib.hid hMs
  clear hMs
  go_enter Tryd.func43, Tryd.ntmps43
  go_wp2
  go_ret
  exact ⟨rfl, M, HMs.out, Lib.hid rfl⟩

set_option maxHeartbeats 400000 in
theorem newWriter (s : Nat) (w : World) :
    Calls Tryd.prog 13 #[.pointer (some ⟨s, 0, none⟩)] w fun e w' => e = .returned (.pointer (some ⟨w.heap.size + 2, 0, none⟩)) ∧
      ∃ M, M.size = 65536 ∧ Hid (w' = ((w.alloc (.cells M 5)).alloc (.cells #[.nilIface, .slice (some ⟨w.heap.size, 0, none⟩) 65536 65536, .int .i64 0, .iface 26 (.pointer (some ⟨s, 0, none⟩))] 74)).alloc (.cells #[.pointer (some ⟨w.heap.size + 1, 0, none⟩), .slice none 0 0] 59)) := by
  have h34 : Calls Tryd.prog 34 #[.iface 26 (.pointer (some ⟨s, 0, none⟩))] w fun e w' => e = .returned (.pointer (some ⟨w.heap.size + 2, 0, none⟩)) ∧
      ∃ M, M.size = 65536 ∧ Hid (w' = ((w.alloc (.cells M 5)).alloc (.cells #[.nilIface, .slice (some ⟨w.heap.size, 0, none⟩) 65536 65536, .int .i64 0, .iface 26 (.pointer (some ⟨s, 0, none⟩))] 74)).alloc (.cells #[.pointer (some ⟨w.heap.size + 1, 0, none⟩), .slice none 0 0] 59)) := by
    go_enter Tryd.func34, Tryd.ntmps34
    go_wp2_with (go_at_call 43; refine (newWriterSize s _).mono ?_; rintro e w1 ⟨rfl, M, hM, h1⟩; refine Hid.out ?_)
    refine Lib.hid ?_
    have hM' := Lib.hid hM
    clear hM
    have hs1 : w1.heap.size = w.heap.size + 2 := by rw [h1.out]; simp
    have Hs1 := Lib.hid hs1
    clear hs1
    go_wp2
    go_ret
    refine ⟨by rw [← Hs1.out]; rfl, M, hM'.out, Lib.hid ?_⟩
    rw [h1.out]
  have H := Lib.hid h34
  clear h34
  go_enter Tryd.func13, Tryd.ntmps13
  go_wp2_with (go_at_call 34; refine H.out.mono ?_; rintro e w1 ⟨rfl, M, hM, h1⟩; refine Hid.out ?_)
  refine Lib.hid ?_
  have hM' := Lib.hid hM
  clear hM H
  go_wp2
  go_ret
  exact ⟨rfl, M, hM'.out, h1⟩

/-- A new sink and a new writer over it: whatever was there is protected. -/
theorem rw_new {s : Nat} {w w1 w2 : World} {M : Array Value} (hs : s = w.heap.size) (hM : M.size = 65536) (h1 : w1 = w.alloc (.cells #[.slice none 0 0, .int .i64 0, .int .i8 0] 55))
    (h2 : w2 = ((w1.alloc (.cells M 5)).alloc (.cells #[.nilIface, .slice (some ⟨w1.heap.size, 0, none⟩) 65536 65536, .int .i64 0, .iface 26 (.pointer (some ⟨s, 0, none⟩))] 74)).alloc (.cells #[.pointer (some ⟨w1.heap.size + 1, 0, none⟩), .slice none 0 0] 59))
    (Pt : Nat → Prop) (hi : ∀ k, Pt k → k < w.heap.size) :
    Rw Pt s (s + 2) (s + 1) (s + 3) (.slice none 0 0) [] [] w2 ∧ Kept Pt w w2 := by
  have z1 : w1.heap.size = s + 1 := by rw [h1, hs]; simp
  have n1 : w1.heap[s]? = some (.cells #[.slice none 0 0, .int .i64 0, .int .i8 0] 55 (0, 0)) := by rw [h1, hs]; exact heap_alloc_new w _
  rw [z1] at h2
  have o1 : ∀ k, k < s → w1.heap[k]? = w.heap[k]? := fun k hk => by rw [h1]; exact Below.heap_alloc _ _ _ (by omega)
  have a1 := heap_alloc_new w1 (.cells M 5)
  have a2 := heap_alloc_new (w1.alloc (.cells M 5)) (.cells #[.nilIface, .slice (some ⟨s + 1, 0, none⟩) 65536 65536, .int .i64 0, .iface 26 (.pointer (some ⟨s, 0, none⟩))] 74)
  have a3 := heap_alloc_new ((w1.alloc (.cells M 5)).alloc (.cells #[.nilIface, .slice (some ⟨s + 1, 0, none⟩) 65536 65536, .int .i64 0, .iface 26 (.pointer (some ⟨s, 0, none⟩))] 74)) (.cells #[.pointer (some ⟨s + 1 + 1, 0, none⟩), .slice none 0 0] 59)
  have y1 : (w1.alloc (.cells M 5)).heap.size = s + 2 := by simp [z1]
  have y2 : ((w1.alloc (.cells M 5)).alloc (.cells #[.nilIface, .slice (some ⟨s + 1, 0, none⟩) 65536 65536, .int .i64 0, .iface 26 (.pointer (some ⟨s, 0, none⟩))] 74)).heap.size = s + 3 := by simp [z1]
  rw [z1] at a1
  rw [y1] at a2
  rw [y2, ← h2] at a3
  have b2 : w2.heap[s + 2]? = some (.cells #[.nilIface, .slice (some ⟨s + 1, 0, none⟩) 65536 65536, .int .i64 0, .iface 26 (.pointer (some ⟨s, 0, none⟩))] 74 (0, 0)) := by
    rw [h2, Below.heap_alloc _ _ _ (by rw [y2]; omega)]; exact a2
  have b1 : w2.heap[s + 1]? = some (.cells M 5 (0, 0)) := by
    rw [h2, Below.heap_alloc _ _ _ (by rw [y2]; omega), Below.heap_alloc _ _ _ (by rw [y1]; omega)]; exact a1
  have b0 : ∀ k, k < s + 1 → w2.heap[k]? = w1.heap[k]? := fun k hk => by
    rw [h2, Below.heap_alloc _ _ _ (by rw [y2]; omega), Below.heap_alloc _ _ _ (by rw [y1]; omega), Below.heap_alloc _ _ _ (by rw [z1]; omega)]
  have y3 : w2.heap.size = s + 4 := by rw [h2]; simp [z1]
  have nP : ∀ k, s ≤ k → ¬ Pt k := fun k hk hp => by have := hi k hp; omega
  have nS : ∀ k, s ≤ k → k ≠ s + 3 → ¬ Scr Pt (s + 3) (.slice none 0 0) k := fun k hk hne hp => by
    rcases hp with hp | hp | hp
    · exact nP k hk hp
    · exact hne hp
    · simp [Value.ownBlock] at hp
  refine ⟨⟨⟨⟨?_, 0, .inl ⟨rfl, (b0 s (by omega)).trans n1⟩⟩, nS _ (by omega) (by omega), nS _ (by omega) (by omega), by simp, b2, ⟨M, b1, hM, by simp [Lib.byteCells]⟩, ?_⟩, nP _ (by omega), fun g hg => by simp [Value.ownBlock] at hg, a3, ⟨0, [], World.ownsRow_nil _ _ _ _⟩⟩, ?_⟩
  · intro hp
    rcases hp with hp | hp | hp
    · exact nS s (by omega) (by omega) hp
    · omega
    · omega
  · intro k hp
    rcases hp with hp | hp | hp
    · have := hi k hp; omega
    · omega
    · simp [Value.ownBlock] at hp
  · refine ⟨by rw [h2, h1]; rfl, by rw [h2, h1]; rfl, by rw [h2, h1]; rfl, by omega, fun k hk => ?_⟩
    have := hi k hk
    rw [b0 k (by omega), o1 k (by omega)]

/-- The sink's bytes, readable. -/
theorem sinkBytes (Pt : Nat → Prop) (s : Nat) (out : List UInt8) (w : World) (h : Bf Pt s out w) :
    Calls Tryd.prog 17 #[.pointer (some ⟨s, 0, none⟩)] w fun e w' => Hid (∃ n, w' = w.drewN n) ∧ ((out = [] ∧ e = .returned (.slice none 0 0)) ∨
      ∃ g cap cur, e = .returned (.slice (some ⟨g, 0, none⟩) out.length cap) ∧ w.heap[g]? = some (.cells cur 5 (0, 0)) ∧ Hid (out.length ≤ cur.size) ∧ Hid (cur.toList.take out.length = Lib.byteCells out) ∧ out.length ≤ maxLen) := by
  have H := Lib.hid (buf_bytes Pt s out w h)
  go_enter Tryd.func17, Tryd.ntmps17
  go_wp2_with fail
  refine H.out.mono ?_
  clear H
  rintro e w1 ⟨hw1, ⟨ho, rfl⟩ | ⟨g, cap, cur, rfl, h2, h3, h4, h5⟩⟩
  · have Hw := Lib.hid hw1
    have Ho := Lib.hid ho
    clear hw1 ho
    go_wp2
    go_ret
    exact ⟨Hw, .inl ⟨Ho.out, rfl⟩⟩
  · have Hw := Lib.hid hw1
    have H3 := Lib.hid h3
    have H4 := Lib.hid h4
    clear hw1 h3 h4
    go_wp2
    go_ret
    exact ⟨Hw, .inr ⟨g, cap, cur, rfl, h2, H3, H4, h5⟩⟩

end Go.Proofs.Qxb6616850aDoor
