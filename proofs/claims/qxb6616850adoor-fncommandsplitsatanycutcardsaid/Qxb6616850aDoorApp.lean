/-
  strconv.AppendInt at base 10, at this dump: which row the answer owns, and that nothing else has turned. After the shelf's own text.
-/
import Derived.Test.Qxb6616850aDoorShelf2
import Derived.Test.Qxb6616850aDoorLies
import Derived.Lib.AppendIntMem
import Derived.Lib.BufferOwn
import Derived.Lib.Slices
import Derived.Lib.Hide
import Derived.OwnWalk
import Derived.WalkKit
import Derived.BigCall
import Derived.BigGuard
import Derived.CellFam
namespace Go.Proofs.Qxb6616850aDoor
open Go.RowKit Go.Sort

theorem Tryd.info5a : (Tryd.prog.info? 5).map (fun i => (i.zero, i.size, i.bytes)) = some (some (.int .u8 0), 1, 1) := by kernel_rfl
theorem powG : Tryd.prog.globalNamed powName = some 1 := by kernel_rfl

theorem Tab.kept {w w' : World} (h : Tab w) (hk : w'.heap[1]? = w.heap[1]?) : Tab w' := by
  unfold Tab Lib.TabIs World.var? at *
  simp only [powG, Option.bind_some] at h ⊢
  rw [hk]
  exact h
theorem Tab.lt {w : World} (h : Tab w) : 1 < w.heap.size := by
  unfold Tab Lib.TabIs World.var? at h
  simp only [powG, Option.bind_some] at h
  rcases Nat.lt_or_ge 1 w.heap.size with h' | h'
  · exact h'
  · rw [Array.getElem?_eq_none h'] at h; simp at h

theorem lies_refl (v : Value) (H : Nat) : Lies v v H := fun _ h => .inl h
theorem grown_lies {w w1 w2 : World} {v v1 : Value} (h1 : w.grownBy w1 v.ownBlock) (l1 : Lies v v1 w.heap.size) (h2 : w1.grownBy w2 v1.ownBlock) : w.grownBy w2 v.ownBlock :=
  ⟨h2.os.trans h1.os, h2.tape.trans h1.tape, h2.output.trans h1.output, Nat.le_trans h1.size h2.size, fun k hk hne => (h2.block k (Nat.lt_of_lt_of_le hk h1.size) (fun e => by
    rcases l1 k e.symm with h | h
    · exact hne h.symm
    · omega)).trans (h1.block k hk hne)⟩
theorem lies_trans {w w1 : World} {v v1 v2 : Value} (hs : w.heap.size ≤ w1.heap.size) (l1 : Lies v v1 w.heap.size) (l2 : Lies v1 v2 w1.heap.size) : Lies v v2 w.heap.size := fun g hg => by
  rcases l2 g hg with h | h
  · exact l1 g h
  · exact .inr (Nat.le_trans hs h)

/-- What an append leaves. -/
structure Apd (v : Value) (w : World) (v' : Value) (n : Nat) (xs : List Value) (w' : World) : Prop where
  own : w'.ownsRow 0 5 1 v' n xs
  grown : w.grownBy w' v.ownBlock
  lies : Lies v v' w.heap.size

theorem Apd.trans {v v1 v2 : Value} {w w1 w2 : World} {n1 n2 : Nat} {x1 x2 : List Value} (h : Apd v w v1 n1 x1 w1) (k : Apd v1 w1 v2 n2 x2 w2) : Apd v w v2 n2 x2 w2 :=
  ⟨k.own, grown_lies h.grown h.lies k.grown, lies_trans h.grown.size h.lies k.lies⟩
/-- .. begun in a world that has only been drawn from, or has new blocks. -/
theorem Apd.from {v v' : Value} {w w0 w' : World} {n : Nat} {xs : List Value} (h : Apd v w0 v' n xs w') (hg : w.grownBy w0 v.ownBlock) : Apd v w v' n xs w' :=
  ⟨h.own, Lib.grownBy_trans hg h.grown, fun g q => by
    rcases h.lies g q with p | p
    · exact .inl p
    · exact .inr (Nat.le_trans hg.size p)⟩

set_option maxHeartbeats 1600000 in
set_option maxRecDepth 100000 in
theorem appendUint_small (n u : Nat) (hu : u < 100) (sv : Value) (xs : List Value) (w : World) (hown : w.ownsRow 0 5 1 sv n xs) (hlim : n + 20 ≤ 140737488355328) :
    Calls Tryd.prog 48 #[sv, .int .u64 u, .int .i64 10] w fun e w' => ∃ v', e = .returned v' ∧ Apd sv w v' (n + (Lib.decDigits u).length) (xs ++ Lib.byteCells (Lib.decDigits u)) w' := by
  obtain ⟨i0, hi, hz0, hz1, hz2⟩ := info_parts Tryd.info5a
  have hlen : (Lib.decDigits u).length ≤ 20 := by
    rw [Lib.decDigits_length]
    by_cases h10 : u < 10
    · rw [Lib.nDigits_small h10]; omega
    · rw [Lib.nDigits_big h10, Lib.nDigits_small (show u / 10 < 10 by omega)]; omega
  have hsz : (⟨(Lib.decDigits u).toArray⟩ : ByteArray).size = (Lib.decDigits u).length := by simp [ByteArray.size]
  go_enter Tryd.func48, Tryd.ntmps48
  go_wp2_with (first
    | (go_at_call 49; refine (Tryd.internal_strconv_small u hu _).mono ?_; rintro e w' ⟨rfl, rfl⟩)
    | (at_builtin; refine wpList_append_lies_str _ rfl _ _ 23 9 rfl 5 i0 Tryd.underlying23 Tryd.underlying9 hi hz0 hz1 hz2 _ _ _ rfl hown ⟨(Lib.decDigits u).toArray⟩ rfl (by rw [hsz]; unfold maxLen; omega) (by rw [hsz]; omega) ?_))
  intro v' w1 hown' hgrow hlies
  go_wp2
  go_ret
  refine ⟨v', rfl, ?_, hgrow, hlies⟩
  first | exact hown' | (rw [hsz] at hown'; exact hown')

set_option maxHeartbeats 3200000 in
set_option maxRecDepth 100000 in
theorem appendUint_big (n u : Nat) (hu : 100 ≤ u) (hu64 : u < 18446744073709551616) (sv : Value) (xs : List Value) (w : World) (hown : w.ownsRow 0 5 1 sv n xs) (hlim : n + 20 ≤ 140737488355328) (htab : Tab w) :
    Calls Tryd.prog 48 #[sv, .int .u64 u, .int .i64 10] w fun e w' => ∃ v', e = .returned v' ∧ Apd sv w v' (n + (Lib.decDigits u).length) (xs ++ Lib.byteCells (Lib.decDigits u)) w' := by
  obtain ⟨i0, hi, hz0, hz1, hz2⟩ := info_parts Tryd.info5a
  have hu1 : 1 ≤ u := by omega
  have hnd20 : Lib.nDigits u ≤ 20 := by have := Lib.numDigits_eq u hu1 hu64; split at this <;> omega
  have hnd1 : 1 ≤ Lib.nDigits u := by rw [Lib.nDigits_big (by omega)]; omega
  have hal : Tryd.prog.arrayLen 83 = 24 := by simp [Program.arrayLen, Tryd.underlying83]
  have hsl : ∀ W, (Instr.sliceAt 83 (.pointer (some ⟨w.heap.size, 0, none⟩)) none (some (.int .i64 (Lib.nDigits u : Int))) none).run Tryd.prog W = .ok (.slice (some ⟨w.heap.size, 0, none⟩) (Lib.nDigits u) 24) W := fun W => by
    rw [run_sliceAt_array_h W 83 ⟨w.heap.size, 0, none⟩ (by simp [Program.arrayLen, Program.elem, Tryd.underlying83]) .i64 (Lib.nDigits u : Int) (by omega) (by rw [hal]; omega)]
    go_simp
  have hH0 := Lib.holds_zero0 w 83 (Lib.nDigits u) (by omega)
  have hfmt := Tryd.internal_strconv_formatBase10 w.heap.size 0 24 u (Array.replicate (Lib.nDigits u) 0) (w.alloc (.cells Lib.zeros24 83)) hH0 (by rw [Array.size_replicate]; exact Lib.lt_pow_nDigits u) hu64 (by rw [Array.size_replicate]; omega)
  rw [Array.size_replicate] at hfmt
  have HH0 := Lib.hid hH0
  have iu : (100 : Int) ≤ (u : Int) := by omega
  have htab1 : Tab (w.alloc (.cells Lib.zeros24 83)) := htab.kept (Below.heap_alloc _ _ _ htab.lt)
  clear hH0 hal
  go_enter Tryd.func48, Tryd.ntmps48
  go_wp2_with (go_at_call 50; refine (Tryd.internal_strconv_numDigits u hu1 hu64 _ htab1).mono ?_; rintro e w' ⟨rfl, rfl⟩)
  go_at_call 51
  refine hfmt.mono ?_
  rintro e w' ⟨rfl, k, v', dk, rfl, hF⟩
  have hcells : ∀ j u', (Lib.byteCells (Lib.decDigits u))[j]? = some u' → ((putRow (fun (b : UInt8) => Value.int .u8 (b.toNat : Int)) (w.alloc (.cells Lib.zeros24 83)) w.heap.size 0 dk).drewN k).cell? ((⟨w.heap.size, 0, none⟩ : Addr).add j) = some u' := by
    intro j u' hj
    have hjl : j < (Lib.decDigits u).length := by
      have h5 := (List.getElem?_eq_some_iff.1 hj).1
      rwa [Lib.byteCells_length] at h5
    have e5 : (Lib.byteCells (Lib.decDigits u))[j]? = some (Value.int .u8 ((Lib.decDigits u)[j].toNat : Int)) := by simp [Lib.byteCells, hjl]
    rw [e5] at hj
    cases hj
    rw [Lib.row_is_numeral hF j hjl, Lib.add_plain, World.cell?_drewN]
    exact cell?_putRow (fun (b : UInt8) => Value.int .u8 (b.toNat : Int)) _ w.heap.size 0 _ dk HH0.out (by rw [hF.size, Array.size_replicate]) j (by rw [hF.size]; rw [Lib.decDigits_length] at hjl; exact hjl)
  obtain ⟨os, eo⟩ := Lib.fin_at w (.cells Lib.zeros24 83) dk k 0
  have hown2 : ((putRow (fun (b : UInt8) => Value.int .u8 (b.toNat : Int)) (w.alloc (.cells Lib.zeros24 83)) w.heap.size 0 dk).drewN k).ownsRow 0 5 1 sv n xs := by rw [eo]; exact Lib.ownsRow_grow hown k os
  have hnx2 : Below w.heap.size w ((putRow (fun (b : UInt8) => Value.int .u8 (b.toNat : Int)) (w.alloc (.cells Lib.zeros24 83)) w.heap.size 0 dk).drewN k) := by rw [eo]; exact Lib.below_grow w.heap.size w (Nat.le_refl _) k os
  generalize (putRow (fun (b : UInt8) => Value.int .u8 (b.toNat : Int)) (w.alloc (.cells Lib.zeros24 83)) w.heap.size 0 dk).drewN k = W2 at hcells hown2 hnx2 ⊢
  clear eo HH0 hfmt
  go_wp2_with (at_builtin; refine wpList_append_lies _ rfl _ _ 23 rfl 0 5 i0 (.int .u8 0) 1 1 Tryd.underlying23 hi hz0 hz1 hz2 rfl (by decide) _ _ _ rfl hown2 ⟨w.heap.size, 0, none⟩ (Lib.nDigits u) 24 (Lib.byteCells (Lib.decDigits u)) rfl ?c0 hcells ?c2 ?c1 ?c3 ?c4 ?c5 _ rfl ?_)
  case c0 => rw [Lib.byteCells_length, Lib.decDigits_length, Nat.mul_one]
  case c2 => intro u' hu'; simp only [Lib.byteCells, List.mem_map] at hu'; obtain ⟨b, _, rfl⟩ := hu'; rfl
  case c1 => exact hnd1
  case c3 => unfold maxLen; omega
  case c4 => omega
  case c5 => omega
  intro g cap w3 hown' hgrow hat hlt
  go_wp2
  go_ret
  have hA : Apd sv W2 (.slice (some ⟨g, 0, none⟩) (n + Lib.nDigits u) cap) (n + Lib.nDigits u) (xs ++ Lib.byteCells (Lib.decDigits u)) w3 := ⟨hown', hgrow, fun g' hg' => by
    simp [Value.ownBlock] at hg'
    subst hg'
    rcases hat with h | h
    · exact .inl h
    · exact .inr (by omega)⟩
  refine ⟨_, rfl, ?_⟩
  rw [Lib.decDigits_length]
  exact hA.from ⟨hnx2.os, hnx2.tape, hnx2.output, hnx2.size, fun k hk _ => hnx2.block k hk⟩

theorem appendUint (n u : Nat) (hu64 : u < 18446744073709551616) (sv : Value) (xs : List Value) (w : World) (hown : w.ownsRow 0 5 1 sv n xs) (hlim : n + 20 ≤ 140737488355328) (htab : Tab w) :
    Calls Tryd.prog 48 #[sv, .int .u64 u, .int .i64 10] w fun e w' => ∃ v', e = .returned v' ∧ Apd sv w v' (n + (Lib.decDigits u).length) (xs ++ Lib.byteCells (Lib.decDigits u)) w' := by
  by_cases h : u < 100
  · exact appendUint_small n u h sv xs w hown hlim
  · exact appendUint_big n u (by omega) hu64 sv xs w hown hlim htab

set_option maxHeartbeats 1600000 in
set_option maxRecDepth 100000 in
theorem appendInt47 (n : Nat) (i : Int) (h0 : -9223372036854775808 ≤ i) (h1 : i ≤ 9223372036854775807) (sv : Value) (xs : List Value) (w : World) (hown : w.ownsRow 0 5 1 sv n xs) (hlim : n + 21 ≤ 140737488355328) (htab : Tab w) (hg1 : sv.ownBlock ≠ some 1) :
    Calls Tryd.prog 47 #[sv, .int .i64 i, .int .i64 10] w fun e w' => ∃ v', e = .returned v' ∧ Apd sv w v' (n + (Lib.itoa i).length) (xs ++ Lib.byteCells (Lib.itoa i)) w' := by
  obtain ⟨i0, hi, hz0, hz1, hz2⟩ := info_parts Tryd.info5a
  by_cases hneg : i < 0
  · obtain ⟨u, rfl⟩ : ∃ u : Nat, i = -(u : Int) := ⟨i.natAbs, by omega⟩
    have hu1 : 1 ≤ u := by omega
    have hu64 : u < 18446744073709551616 := by omega
    have hwr : IntKind.u64.wrap (-IntKind.u64.wrap (-(u : Int))) = (u : Int) := by rw [IntKind.wrap_u64, IntKind.wrap_u64]; omega
    rw [Lib.itoa_neg u hu1]
    have hal : w.grownBy (w.alloc (.cells #[Value.int .u8 45] 5)) sv.ownBlock := World.grownBy_alloc w _ _
    go_enter Tryd.func47, Tryd.ntmps47
    go_wp2_with (at_builtin; refine wpList_append_lies _ rfl _ _ 23 rfl 0 5 i0 (.int .u8 0) 1 1 Tryd.underlying23 hi hz0 hz1 hz2 rfl (by decide) _ _ _ rfl (hown.alloc _) ⟨w.heap.size, 0, none⟩ 1 1 [Value.int .u8 45] rfl rfl (by intro j u' hj; match j, hj with | 0, hj => simp at hj; subst hj; simp [Addr.add]) (by intro u' hu'; simp at hu'; subst hu'; rfl) (by decide) (by unfold maxLen; omega) (by omega) (Nat.zero_le _) _ rfl ?_)
    intro g cap w1 hown1 hgrow hat hlt
    have hA : Apd sv w (.slice (some ⟨g, 0, none⟩) (n + 1) cap) (n + 1) (xs ++ [Value.int .u8 45]) w1 := Apd.from ⟨hown1, hgrow, fun g' hg' => by
      simp [Value.ownBlock] at hg'
      subst hg'
      rcases hat with h | h
      · exact .inl h
      · exact .inr (by rw [h]; simp)⟩ (World.grownBy_alloc w _ _)
    have htab1 : Tab w1 := htab.kept (hA.grown.block 1 htab.lt (Ne.symm hg1))
    clear hown1 hgrow hat hal
    go_wp2_with (go_at_call 48; refine (appendUint (n + 1) u hu64 _ _ w1 hA.own (by omega) htab1).mono ?_; rintro e w2 ⟨v2, rfl, hB⟩)
    go_wp2
    go_ret
    refine ⟨v2, rfl, ?_⟩
    have e1 : n + ((Lib.decDigits u).length + 1) = n + 1 + (Lib.decDigits u).length := by omega
    have e2 : xs ++ Lib.byteCells (45 :: Lib.decDigits u) = xs ++ [Value.int .u8 45] ++ Lib.byteCells (Lib.decDigits u) := by simp [Lib.byteCells]
    rw [e1, e2]
    exact hA.trans hB
  · obtain ⟨u, rfl⟩ : ∃ u : Nat, i = u := ⟨i.toNat, by omega⟩
    have hu64 : u < 18446744073709551616 := by omega
    rw [Lib.itoa_nonneg]
    go_enter Tryd.func47, Tryd.ntmps47
    go_wp2_with (go_at_call 48; refine (appendUint n u hu64 sv xs w hown (by omega) htab).mono ?_; rintro e w2 ⟨v2, rfl, hB⟩)
    go_wp2
    go_ret
    exact ⟨v2, rfl, hB⟩

set_option maxRecDepth 100000 in
/-- strconv.AppendInt(dst, i, 10). -/
theorem appendInt (n : Nat) (i : Int) (h0 : -9223372036854775808 ≤ i) (h1 : i ≤ 9223372036854775807) (sv : Value) (xs : List Value) (w : World) (hown : w.ownsRow 0 5 1 sv n xs) (hlim : n + 21 ≤ 140737488355328) (htab : Tab w) (hg1 : sv.ownBlock ≠ some 1) :
    Calls Tryd.prog 46 #[sv, .int .i64 i, .int .i64 10] w fun e w' => ∃ v', e = .returned v' ∧ Apd sv w v' (n + (Lib.itoa i).length) (xs ++ Lib.byteCells (Lib.itoa i)) w' := by
  go_enter Tryd.func46, Tryd.ntmps46
  go_wp2_with (go_at_call 47; refine (appendInt47 n i h0 h1 sv xs w hown hlim htab hg1).mono ?_; rintro e w2 ⟨v2, rfl, hB⟩)
  go_wp2
  go_ret
  exact ⟨v2, rfl, hB⟩

end Go.Proofs.Qxb6616850aDoor
