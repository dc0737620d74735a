/-
  resp.Writer's header, at this dump.
-/
import Derived.Test.Qxb6616850aDoorResp
import Derived.Test.Qxb6616850aDoorBio4
import Derived.Test.Qxb6616850aDoorApp
import Derived.Lib.ItoaLen
namespace Go.Proofs.Qxb6616850aDoor
open Go.RowKit

section
variable {Pt Qt : Nat → Prop} {s b r q : Nat} {sv v v2 : Value} {out pend : List UInt8} {w w1 w2 : World} {n n2 : Nat} {xs x2 : List Value}

/-- A bufio.Writer over whatever keeps the blocks that are not protected. -/
theorem Bw.shift (h : Bw Pt s b r out pend w) (hk : ∀ k, k < w.heap.size → ¬ Pt k → w1.heap[k]? = w.heap[k]? ∧ ¬ Qt k) (hi : ∀ k, Qt k → k < w1.heap.size) : Bw Qt s b r out pend w1 := by
  obtain ⟨cur, hr, h3, h4⟩ := h.row
  have kb := hk b (Lib.lt_of_heap h.blk) h.pb
  have kr := hk r (Lib.lt_of_heap hr) h.pr
  refine ⟨h.bf.old fun k hl hp _ => ?_, kb.2, kr.2, h.le, kb.1.trans h.blk, ⟨cur, kr.1.trans hr, h3, h4⟩, hi⟩
  have kk := hk k hl (fun e => hp (.inl e))
  refine ⟨kk.1, fun hx => ?_⟩
  rcases hx with hx | hx
  · exact kk.2 hx
  · exact hp (.inr hx)

/-- While header writes its scratch slice: all but the writer's own block and the scratch row stands as it stood. -/
structure Hs (b q : Nat) (sv : Value) (w : World) (v : Value) (n : Nat) (xs : List Value) (w' : World) : Prop where
  own : w'.ownsRow 0 5 1 v n xs
  blk : ∃ v0, w'.heap[q]? = some (.cells #[.pointer (some ⟨b, 0, none⟩), v0] 59 (0, 0))
  keep : ∀ k, k < w.heap.size → k ≠ q → sv.ownBlock ≠ some k → w'.heap[k]? = w.heap[k]?
  lies : Lies sv v w.heap.size
  vq : v.ownBlock ≠ some q
  size : w.heap.size ≤ w'.heap.size
  os : w'.os = w.os
  tape : w'.tape = w.tape
  output : w'.output = w.output

theorem Hs.app (h : Hs b q sv w v n xs w1) (a : Apd v w1 v2 n2 x2 w2) : Hs b q sv w v2 n2 x2 w2 := by
  obtain ⟨v0, hb⟩ := h.blk
  have hq := Lib.lt_of_heap hb
  have l2 := lies_trans h.size h.lies a.lies
  refine ⟨a.own, ⟨v0, (a.grown.block q hq (Ne.symm h.vq)).trans hb⟩, fun k hk hne hs => ?_, l2, fun e => ?_, Nat.le_trans h.size a.grown.size, a.grown.os.trans h.os, a.grown.tape.trans h.tape, a.grown.output.trans h.output⟩
  · rw [a.grown.block k (Nat.lt_of_lt_of_le hk h.size) ?_, h.keep k hk hne hs]
    intro e
    rcases h.lies k e.symm with p | p
    · exact hs p
    · omega
  · rcases a.lies q e with p | p
    · exact h.vq p
    · omega

theorem Hs.grow (h : Hs b q sv w v n xs w1) (hb : Below w1.heap.size w1 w2) : Hs b q sv w v n xs w2 := by
  obtain ⟨v0, hq⟩ := h.blk
  exact ⟨ownsRow_keep h.own fun g hg => hb.block g ((h.own.lt g hg).2), ⟨v0, (hb.block q (Lib.lt_of_heap hq)).trans hq⟩, fun k hk hne hs => (hb.block k (Nat.lt_of_lt_of_le hk h.size)).trans (h.keep k hk hne hs), h.lies, h.vq, Nat.le_trans h.size hb.size, hb.os.trans h.os, hb.tape.trans h.tape, hb.output.trans h.output⟩

theorem Hs.put (h : Hs b q sv w v n xs w1) (u : Value) : Hs b q sv w v n xs (w1.setCell ⟨q, 1, none⟩ u) ∧ (w1.setCell ⟨q, 1, none⟩ u).heap[q]? = some (.cells #[.pointer (some ⟨b, 0, none⟩), u] 59 (0, 0)) := by
  obtain ⟨v0, hq⟩ := h.blk
  have h1 : (w1.setCell ⟨q, 1, none⟩ u).heap[q]? = some (.cells #[.pointer (some ⟨b, 0, none⟩), u] 59 (0, 0)) := by rw [Lib.heap_setCell_same (i := 1) hq]; rfl
  refine ⟨⟨ownsRow_keep h.own fun g hg => Below.heap_setCell _ _ _ _ (fun e : g = q => h.vq (by rw [← e]; exact hg)), ⟨u, h1⟩, fun k hk hne hs => ?_, h.lies, h.vq, by simpa [World.setCell] using h.size, h.os, h.tape, h.output⟩, h1⟩
  rw [Below.heap_setCell _ _ _ _ hne]
  exact h.keep k hk hne hs

/-- The writer with its new scratch slice. -/
theorem Hs.rw (h : Hs b q sv w v n xs w1) (hr : Rw Pt s b r q sv out pend w) (hb : w1.heap[q]? = some (.cells #[.pointer (some ⟨b, 0, none⟩), v] 59 (0, 0))) : Rw Pt s b r q v out pend w1 ∧ Kept Pt w w1 := by
  have hqw := Lib.lt_of_heap hr.blk
  have nv : ∀ g, v.ownBlock = some g → ¬ Pt g := fun g hg hp => by
    rcases h.lies g hg with p | p
    · exact (hr.pv g p).1 hp
    · have := hr.inn g hp; omega
  refine ⟨⟨hr.bw.shift (fun k hk hp => ⟨h.keep k hk (fun e => hp (.inr (.inl e))) (fun e => hp (.inr (.inr e))), fun hx => ?_⟩) (fun k hx => ?_), hr.pq, fun g hg => ⟨nv g hg, fun e => h.vq (e ▸ hg)⟩, hb, ⟨n, xs, h.own⟩⟩, h.os, h.tape, h.output, h.size, fun k hp => h.keep k (hr.inn k hp) (fun e => hr.pq (e ▸ hp)) (fun e => (hr.pv k e).1 hp)⟩
  · rcases hx with hx | hx | hx
    · exact hp (.inl hx)
    · exact hp (.inr (.inl hx))
    · rcases h.lies k hx with p | p
      · exact hp (.inr (.inr p))
      · omega
  · rcases hx with hx | hx | hx
    · exact Nat.lt_of_lt_of_le (hr.inn k hx) h.size
    · subst hx; exact Nat.lt_of_lt_of_le hqw h.size
    · exact (h.own.lt k hx).2
end

/-- 'scratch[:0]'. -/
theorem slice0 {sv : Value} {n : Nat} {xs : List Value} {w : World} (h : w.ownsRow 0 5 1 sv n xs) :
    ∃ v0, (∀ W, (Instr.slice 23 sv none (some (.int .i64 0)) none).run Tryd.prog W = .ok v0 W) ∧ w.ownsRow 0 5 1 v0 0 [] ∧ v0.ownBlock = sv.ownBlock := by
  rcases h.2 with ⟨rfl, rfl⟩ | ⟨g, cap, cur, rfl, hb, hg, hnc, hcm, hcs, htk⟩
  · exact ⟨.slice none 0 0, fun W => by kernel_rfl, World.ownsRow_nil _ _ _ _, rfl⟩
  · refine ⟨.slice (some ⟨g, 0, none⟩) 0 cap, fun W => ?_, ⟨by simp, .inr ⟨g, cap, cur, rfl, hb, hg, Nat.zero_le _, hcm, hcs, by simp⟩⟩, rfl⟩
    unfold maxLen at hcm
    go_simp

/-- A line: a kind, a decimal numeral, CR LF. -/
def hline (kind : UInt8) (n : Int) : List UInt8 := kind :: (Lib.itoa n ++ [13, 10])
theorem hline_length (kind : UInt8) (n : Int) : (hline kind n).length = (Lib.itoa n).length + 3 := by simp [hline]

set_option maxHeartbeats 1600000 in
set_option maxRecDepth 100000 in
theorem header (Pt : Nat → Prop) (s b r q : Nat) (sv : Value) (out pend : List UInt8) (kind : UInt8) (kv : Int) (hkv : (kind.toNat : Int) = kv) (i : Int) (hi0 : -9223372036854775808 ≤ i) (hi1 : i ≤ 9223372036854775807) (w : World) (h : Rw Pt s b r q sv out pend w)
    (htab : Tab w) (hP : Pt 1) (hlim : out.length + pend.length + 24 ≤ 140737488355328) :
    Calls Tryd.prog 40 #[.pointer (some ⟨q, 0, none⟩), .int .u8 kv, .int .i64 i] w fun e w' => e = .returned (.tuple #[]) ∧
      ∃ sv2 o2 p2, Rw Pt s b r q sv2 o2 p2 w' ∧ o2 ++ p2 = out ++ pend ++ hline kind i ∧ (pend.length + (hline kind i).length ≤ 65536 → o2 = out) ∧ Kept Pt w w' := by
  subst hkv
  obtain ⟨i0, hi, hz0, hz1, hz2⟩ := info_parts Tryd.info5a
  have hil := Lib.itoa_length_le i hi0 hi1
  obtain ⟨ns, xss, hown⟩ := h.own
  obtain ⟨v0, hsl, hown0, hv0⟩ := slice0 hown
  have c1 := h.c1
  have hqw := Lib.lt_of_heap h.blk
  have hvq : v0.ownBlock ≠ some q := fun e => (h.pv q (hv0 ▸ e)).2 rfl
  have hH0 : Hs b q sv w v0 0 [] w := ⟨hown0, ⟨_, h.blk⟩, fun _ _ _ _ => rfl, fun g hg => .inl (hv0 ▸ hg), hvq, Nat.le_refl _, rfl, rfl, rfl⟩
  have Hv0 := Lib.hid hv0
  clear hv0
  go_enter Tryd.func40, Tryd.ntmps40
  go_wp2_with (at_builtin; refine wpList_append_lies _ rfl _ _ 23 rfl 0 5 i0 (.int .u8 0) 1 1 Tryd.underlying23 hi hz0 hz1 hz2 rfl (by decide) _ _ _ rfl (hown0.alloc _) ⟨w.heap.size, 0, none⟩ 1 1 [Value.int .u8 (kind.toNat : Int)] rfl rfl (by intro j u' hj; match j, hj with | 0, hj => simp at hj; subst hj; simp [Addr.add]) (by intro u' hu'; simp at hu'; subst hu'; rfl) (by decide) (by unfold maxLen; omega) (by omega) (Nat.zero_le _) _ rfl ?_)
  intro g1 cap1 w1 hown1 hgrow hat hlt

  have A0 : Apd v0 (w.alloc (.cells #[Value.int .u8 (kind.toNat : Int)] 5)) (.slice (some ⟨g1, 0, none⟩) 1 cap1) 1 [Value.int .u8 (kind.toNat : Int)] w1 := ⟨hown1, hgrow, fun g' hg' => by
      simp [Value.ownBlock] at hg'
      subst hg'
      rcases hat with h | h
      · exact .inl h
      · exact .inr (by rw [h]; simp)⟩
  have A1 : Apd v0 w (.slice (some ⟨g1, 0, none⟩) 1 cap1) 1 [Value.int .u8 (kind.toNat : Int)] w1 := A0.from (World.grownBy_alloc w _ _)
  have H1 := hH0.app A1
  clear A0 A1 hown1 hgrow hat hlt hH0 hown0 hsl Hv0 hvq c1 hown
  obtain ⟨u1, b1⟩ := H1.blk
  have e1 : w1.cell? ⟨q, 1, none⟩ = some u1 := by rw [Lib.cell_of_heap b1]; rfl
  have f1 : w1.frozen? ⟨q, 1, none⟩ = false := Lib.frozen_of_heap b1 1
  have P1 := H1.put (.slice (some ⟨g1, 0, none⟩) 1 cap1)
  obtain ⟨W1, hW1⟩ : ∃ W1, W1 = w1.setCell ⟨q, 1, none⟩ (.slice (some ⟨g1, 0, none⟩) 1 cap1) := ⟨_, rfl⟩
  rw [← hW1] at P1
  have HW1 := Lib.hid hW1
  clear hW1
  go_wp2_with fail
  rw [← HW1.out]
  have g1q : (1 : Nat) ≠ q := fun e => h.pq (e ▸ hP)
  have g1s : sv.ownBlock ≠ some 1 := fun e => (h.pv 1 e).1 hP
  have tab1 : Tab W1 := htab.kept (P1.1.keep 1 htab.lt g1q g1s)
  have g1v : (Value.slice (some ⟨g1, 0, none⟩) 1 cap1).ownBlock ≠ some 1 := fun e => by
    rcases P1.1.lies 1 e with p | p
    · exact g1s p
    · have := htab.lt; omega
  refine (appendInt 1 i hi0 hi1 _ _ W1 P1.1.own (by omega) tab1 g1v).mono ?_
  rintro e w2 ⟨v2, rfl, A2⟩
  have H2 := P1.1.app A2
  clear A2 P1 H1 e1 f1 b1 HW1 tab1 g1v
  obtain ⟨g2, cap2, hv2, -, -⟩ := H2.own.form (by omega)
  subst hv2
  obtain ⟨u2, b2⟩ := H2.blk
  have e1 : w2.cell? ⟨q, 1, none⟩ = some u2 := by rw [Lib.cell_of_heap b2]; rfl
  have f1 : w2.frozen? ⟨q, 1, none⟩ = false := Lib.frozen_of_heap b2 1
  obtain ⟨L, hL⟩ : ∃ L, L = 1 + (Lib.itoa i).length := ⟨_, rfl⟩
  rw [← hL] at H2 ⊢
  have HL := Lib.hid hL
  have hL1 : L ≤ 22 := by omega
  have hL0 : 1 ≤ L := by omega
  clear hL hil
  have P2 := H2.put (.slice (some ⟨g2, 0, none⟩) L cap2)
  obtain ⟨xs2, hxs2⟩ : ∃ xs2, xs2 = [Value.int .u8 (kind.toNat : Int)] ++ Lib.byteCells (Lib.itoa i) := ⟨_, rfl⟩
  rw [← hxs2] at P2 H2
  have Hxs2 := Lib.hid hxs2
  clear hxs2
  go_wp2_with (at_builtin; refine wpList_append_lies _ rfl _ _ 23 rfl 0 5 i0 (.int .u8 0) 1 1 Tryd.underlying23 hi hz0 hz1 hz2 rfl (by decide) _ _ _ rfl (P2.1.own.alloc _) ⟨w2.heap.size, 0, none⟩ 2 2 [Value.int .u8 13, Value.int .u8 10] rfl rfl ?c1 (by intro u' hu'; simp at hu'; rcases hu' with rfl | rfl <;> rfl) (by decide) (by unfold maxLen; omega) (by omega) (Nat.zero_le _) _ rfl ?_)
  case c1 =>
    refine World.news_of_block (cs := #[Value.int .u8 13, Value.int .u8 10]) (t := 5) (fr := (0, 0)) ?_
    have := heap_alloc_new (w2.setCell ⟨q, 1, none⟩ (.slice (some ⟨g2, 0, none⟩) L cap2)) (.cells #[Value.int .u8 13, Value.int .u8 10] 5)
    rwa [show (w2.setCell ⟨q, 1, none⟩ (.slice (some ⟨g2, 0, none⟩) L cap2)).heap.size = w2.heap.size by simp [World.setCell]] at this
  intro g3 cap3 w3 hown3 hgrow hat hlt
  have A3 : Apd (.slice (some ⟨g2, 0, none⟩) L cap2) ((w2.setCell ⟨q, 1, none⟩ (.slice (some ⟨g2, 0, none⟩) L cap2)).alloc (.cells #[Value.int .u8 13, Value.int .u8 10] 5)) (.slice (some ⟨g3, 0, none⟩) (L + 2) cap3) (L + 2) (xs2 ++ [Value.int .u8 13, Value.int .u8 10]) w3 := ⟨hown3, hgrow, fun g' hg' => by
      simp [Value.ownBlock] at hg'
      subst hg'
      rcases hat with h | h
      · exact .inl h
      · exact .inr (by rw [h]; simp [World.setCell])⟩
  have H3 := P2.1.app (A3.from (World.grownBy_alloc _ _ _))
  clear A3 hown3 hgrow hat hlt P2 H2 e1 f1 b2
  obtain ⟨u3, b3⟩ := H3.blk
  have e1 : w3.cell? ⟨q, 1, none⟩ = some u3 := by rw [Lib.cell_of_heap b3]; rfl
  have f1 : w3.frozen? ⟨q, 1, none⟩ = false := Lib.frozen_of_heap b3 1
  have P3 := H3.put (.slice (some ⟨g3, 0, none⟩) (L + 2) cap3)
  obtain ⟨R3, K3⟩ := P3.1.rw h P3.2
  have c0 := R3.c0
  have c1 := R3.c1
  have hxs : xs2 ++ [Value.int .u8 13, Value.int .u8 10] = Lib.byteCells (hline kind i) := by rw [Hxs2.out]; simp [hline, Lib.byteCells]
  have hln : (hline kind i).length = L + 2 := by rw [hline_length, HL.out]; omega
  have hrd : Rd (hline kind i) g3 0 (w3.setCell ⟨q, 1, none⟩ (.slice (some ⟨g3, 0, none⟩) (L + 2) cap3)) ∧ L + 2 ≤ cap3 ∧ cap3 ≤ maxLen := by
    rcases P3.1.own.2 with ⟨hv, -⟩ | ⟨g', cap', cur, hv, hb, hg, hnc, hcm, hcs, htk⟩
    · cases hv
    · simp only [Value.slice.injEq, Option.some.injEq, Addr.mk.injEq] at hv
      obtain ⟨⟨rfl, -, -⟩, -, rfl⟩ := hv
      refine ⟨Rd.of_row hg ?_, hnc, hcm⟩
      rw [hln, ← hxs]
      simpa using htk
  obtain ⟨hrd, hnc, hcm⟩ := hrd
  unfold maxLen at hcm
  have Hln := Lib.hid hln
  clear hxs hln H3 P3 b3
  go_wp2
  go_region_held3 (fun w' => w'.cell? ⟨q, 0, none⟩ = some (.pointer (some ⟨b, 0, none⟩)) ∧ w'.cell? ⟨q, 1, none⟩ = some (.slice (some ⟨g3, 0, none⟩) (L + 2) cap3)) (go_keep) ((
    go_at_call 41
    refine (bwrite (Scr Pt q (.slice (some ⟨g3, 0, none⟩) (L + 2) cap3)) s b r out pend (hline kind i) g3 0 cap3 (L + 2) Hln.out _ R3.bw.drew (.inr (.inr rfl)) ?_ hnc hcm (by omega)).mono ?_
    exact hrd
    rintro e w4 ⟨rfl, o2, p2, h4, l4, z4, k4⟩
    have q0 : w4.cell? ⟨q, 0, none⟩ = some (.pointer (some ⟨b, 0, none⟩)) := (k4.cell (p := ⟨q, 0, none⟩) (.inr (.inl rfl))).trans c0
    have q1 : w4.cell? ⟨q, 1, none⟩ = some (.slice (some ⟨g3, 0, none⟩) (L + 2) cap3) := (k4.cell (p := ⟨q, 1, none⟩) (.inr (.inl rfl))).trans c1
    have L4 := Lib.hid l4
    have Z4 := Lib.hid z4
    clear l4 z4))
  have k4 := k4.offDrew
  have R4 := R3.next h4 k4
  go_wp2
  go_end0
  exact ⟨rfl, _, o2, p2, R4, L4.out, fun hz => Z4.out (by rw [← Hln.out]; exact hz), K3.trans (k4.mono fun k hk => .inl hk)⟩

set_option maxHeartbeats 400000 in
theorem array (Pt : Nat → Prop) (s b r q : Nat) (sv : Value) (out pend : List UInt8) (i : Int) (hi0 : -9223372036854775808 ≤ i) (hi1 : i ≤ 9223372036854775807) (w : World) (h : Rw Pt s b r q sv out pend w)
    (htab : Tab w) (hP : Pt 1) (hlim : out.length + pend.length + 24 ≤ 140737488355328) :
    Calls Tryd.prog 28 #[.pointer (some ⟨q, 0, none⟩), .int .i64 i] w fun e w' => e = .returned (.tuple #[]) ∧
      ∃ sv2 o2 p2, Rw Pt s b r q sv2 o2 p2 w' ∧ o2 ++ p2 = out ++ pend ++ hline 42 i ∧ (pend.length + (hline 42 i).length ≤ 65536 → o2 = out) ∧ Kept Pt w w' := by
  go_enter Tryd.func28, Tryd.ntmps28
  go_wp2_with (go_at_call 40; refine (header Pt s b r q sv out pend 42 42 rfl i hi0 hi1 _ h htab hP hlim).mono ?_; rintro e w1 ⟨rfl, sv2, o2, p2, h1, l1, z1, k1⟩; refine Hid.out ?_)
  refine Lib.hid ?_
  have L1 := Lib.hid l1
  have Z1 := Lib.hid z1
  clear l1 z1
  go_wp2
  go_end0
  exact ⟨rfl, sv2, o2, p2, h1, L1.out, Z1.out, k1⟩

set_option maxHeartbeats 400000 in
theorem integer (Pt : Nat → Prop) (s b r q : Nat) (sv : Value) (out pend : List UInt8) (i : Int) (hi0 : -9223372036854775808 ≤ i) (hi1 : i ≤ 9223372036854775807) (w : World) (h : Rw Pt s b r q sv out pend w)
    (htab : Tab w) (hP : Pt 1) (hlim : out.length + pend.length + 24 ≤ 140737488355328) :
    Calls Tryd.prog 32 #[.pointer (some ⟨q, 0, none⟩), .int .i64 i] w fun e w' => e = .returned (.tuple #[]) ∧
      ∃ sv2 o2 p2, Rw Pt s b r q sv2 o2 p2 w' ∧ o2 ++ p2 = out ++ pend ++ hline 58 i ∧ (pend.length + (hline 58 i).length ≤ 65536 → o2 = out) ∧ Kept Pt w w' := by
  go_enter Tryd.func32, Tryd.ntmps32
  go_wp2_with (go_at_call 40; refine (header Pt s b r q sv out pend 58 58 rfl i hi0 hi1 _ h htab hP hlim).mono ?_; rintro e w1 ⟨rfl, sv2, o2, p2, h1, l1, z1, k1⟩; refine Hid.out ?_)
  refine Lib.hid ?_
  have L1 := Lib.hid l1
  have Z1 := Lib.hid z1
  clear l1 z1
  go_wp2
  go_end0
  exact ⟨rfl, sv2, o2, p2, h1, L1.out, Z1.out, k1⟩

end Go.Proofs.Qxb6616850aDoor
