/-
  zzDecimal, at this dump: the decimal numeral, in a new row.
-/
import Derived.Test.Qxb6616850aDoorSl
import Derived.Test.Qxb6616850aDoorApp
import Derived.Lib.ItoaLen
import Derived.Deep.LoopGhost
namespace Go.Proofs.Qxb6616850aDoor
open Go.RowKit

theorem decDigits_step {m : Nat} (h : ¬ m < 10) : Lib.decDigits m = Lib.decDigits (m / 10) ++ [UInt8.ofNat (48 + m % 10)] := by rw [Lib.decDigits, dif_neg h]

/-- The digits that are still to come, and those that have been laid, last first. -/
def DRel (u m : Nat) (ds : List UInt8) : Prop := if m = 0 then ds.reverse = Lib.decDigits u else Lib.decDigits m ++ ds.reverse = Lib.decDigits u

theorem DRel.start {u : Nat} (h : u ≠ 0) : DRel u u [] := by unfold DRel; rw [if_neg h]; simp
theorem DRel.step {u m : Nat} {ds : List UInt8} (h : DRel u m ds) (hm : m ≠ 0) : DRel u (m / 10) (ds ++ [UInt8.ofNat (48 + m % 10)]) := by
  unfold DRel at *
  rw [if_neg hm] at h
  by_cases h10 : m < 10
  · rw [if_pos (by omega)]
    rw [Lib.decDigits_one h10] at h
    rw [show m % 10 = m by omega]
    simpa using h
  · rw [if_neg (by omega)]
    rw [decDigits_step h10] at h
    simpa using h
theorem DRel.len {u m : Nat} {ds : List UInt8} (h : DRel u m ds) (hu : u < 18446744073709551616) : ds.length ≤ 20 := by
  have hn := Lib.nDigits_le20 u hu
  unfold DRel at h
  split at h
  · have := congrArg List.length h
    rw [List.length_reverse, Lib.decDigits_length] at this
    omega
  · have := congrArg List.length h
    rw [List.length_append, List.length_reverse, Lib.decDigits_length, Lib.decDigits_length] at this
    omega

theorem ofNat_digit (m : Nat) : ((UInt8.ofNat (48 + m % 10)).toNat : Int) = 48 + (m : Int) % 10 := by
  have : (UInt8.ofNat (48 + m % 10)).toNat = (48 + m % 10) % 256 := by simp
  rw [this]
  omega

theorem bcs_snoc (ds : List UInt8) (c : UInt8) : Lib.byteCells ds ++ [Value.int .u8 (c.toNat : Int)] = Lib.byteCells (ds ++ [c]) := by simp [Lib.byteCells]

/-- What is known of an owned row that holds at least one byte. -/
theorem ownsRow_rd {w : World} {B : Nat} {v : Value} {dn : Nat} {ds : List UInt8} (h : w.ownsRow B 5 1 v dn (Lib.byteCells ds)) (hn : ds.length = dn) (h1 : 1 ≤ dn) :
    ∃ g cap, v = .slice (some ⟨g, 0, none⟩) dn cap ∧ dn ≤ cap ∧ cap ≤ maxLen ∧ Rd ds g 0 w ∧ B ≤ g ∧ g < w.heap.size := by
  rcases h.2 with ⟨_, h0⟩ | ⟨g, cap, cur, hv, hb, hg, hnc, hcm, hcs, htk⟩
  · omega
  · refine ⟨g, cap, hv, hnc, hcm, Rd.of_row hg ?_, hb, Lib.lt_of_heap hg⟩
    rw [hn]
    simpa using htk

theorem rev_step {ds : List UInt8} {k : Nat} (hk : k < ds.length) : (ds.drop k).reverse = (ds.drop (k + 1)).reverse ++ [ds.getD k 0] := by
  rw [List.drop_eq_getElem_cons hk, List.reverse_cons]
  simp [List.getD, List.getElem?_eq_getElem hk]
theorem byteAt_toNat (l : List UInt8) (k : Nat) : byteAt l k = ((l.getD k 0).toNat : Int) := rfl

theorem drel_done {u : Nat} {ds : List UInt8} (h : DRel u 0 ds) : ds.reverse = Lib.decDigits u := by unfold DRel at h; rw [if_pos rfl] at h; exact h
theorem drel_zero : DRel 0 0 [48] := by unfold DRel; rw [if_pos rfl, Lib.decDigits_one (by omega)]; rfl
theorem dec_pos (u : Nat) : 1 ≤ (Lib.decDigits u).length := by rw [Lib.decDigits_length]; exact Lib.nDigits_pos u

def negDigits (u : Nat) : List UInt8 := 45 :: Lib.decDigits u

set_option maxHeartbeats 1600000 in
set_option maxRecDepth 100000 in
theorem decimal_pos (u : Nat) (hu0 : u ≠ 0) (hu : (u : Int) ≤ 9223372036854775807) (w : World) :
    Calls Tryd.prog 26 #[.int .i64 u] w fun e w' => ∃ g cap, e = .returned (.slice (some ⟨g, 0, none⟩) (Lib.decDigits u).length cap) ∧ (Lib.decDigits u).length ≤ cap ∧ cap ≤ maxLen ∧ Rd (Lib.decDigits u) g 0 w' ∧ w.heap.size ≤ g ∧ g < w'.heap.size ∧ Below w.heap.size w w' := by
  obtain ⟨i0, hi, hz0, hz1, hz2⟩ := info_parts Tryd.info5a
  have hneg : decide ((u : Int) < 0) = false := by simp
  have hu0' : ((u : Int) == 0) = false := beq_eq_false_iff_ne.2 (by omega)
  go_enter Tryd.func26, Tryd.ntmps26
  go_wp2
  go_loopg [4, 5] u (fun n mv v wr => ∃ (m : Nat) (ds : List UInt8) (dn : Nat), n = m ∧ m ≤ u ∧ mv = .int .u64 m ∧ Hid (ds.length = dn) ∧ Hid (DRel u m ds) ∧ wr.ownsRow w.heap.size 5 1 v dn (Lib.byteCells ds) ∧ Below w.heap.size w wr)
  case atStart => exact ⟨u, [], 0, rfl, Nat.le_refl _, rfl, Lib.hid rfl, Lib.hid (DRel.start hu0), World.ownsRow_nil _ _ _ _, Below.refl _ _⟩
  case round =>
    rename World => wo
    obtain ⟨m, ds, dn, hn, hmu, rfl, Hdn, HD, hown, hb⟩ := hrel
    have hdn : dn ≤ 20 := by have := HD.out.len (by omega); have := Hdn.out; omega
    by_cases hm : m = 0
    · subst hm
      have hrev := drel_done HD.out
      have hd1 : 1 ≤ dn := by have h1 := congrArg List.length hrev; rw [List.length_reverse] at h1; have := dec_pos u; have := Hdn.out; omega
      obtain ⟨g, cap, hv, hdc, hcm, hrd, hBg, hgs⟩ := ownsRow_rd hown Hdn.out hd1
      unfold maxLen at hcm
      rw [hv]
      have Hrev := Lib.hid hrev
      clear hrev hown HD hv
      obtain ⟨M, hM⟩ : ∃ M, M = madeCells (Value.int .u8 0).cells (((dn : Int) + 1).toNat * i0.size) := ⟨_, rfl⟩
      have hMs : M.size = dn + 1 := by rw [hM, size_madeCells, hz1]; simp
      have hmk : ∀ W : World, (Instr.makeSlice 23 (.int .i64 0) (.int .i64 ((dn : Int) + 1))).run Tryd.prog W = .ok (.slice (some ⟨W.heap.size, 0, none⟩) 0 (dn + 1)) (W.alloc (.cells M 5)) := fun W => by
        have h := run_makeSlice (P := Tryd.prog) W 23 5 i0 (.int .u8 0) Tryd.underlying23 hi hz0 .i64 .i64 0 ((dn : Int) + 1) (by omega) (by omega) (by rw [hz1]; omega) (by rw [hz2]; omega) (by omega)
        rw [← hM] at h
        rw [h]
        simp
      clear hM
      have hmade : (wo.alloc (.cells M 5)).ownsRow wo.heap.size 5 1 (.slice (some ⟨wo.heap.size, 0, none⟩) 0 (dn + 1)) 0 [] := World.ownsRow_made wo M (dn + 1) (Nat.le_refl _) (by unfold maxLen; omega) (by omega)
      have hbm : Below wo.heap.size wo (wo.alloc (.cells M 5)) := (Below.refl _ wo).alloc (Nat.le_refl _) _
      have HMs := Lib.hid hMs
      clear hMs
      go_wp2
      clear hmk HMs
      go_loopg [6, 7] dn (fun n v iv w2 => ∃ k : Nat, n = k ∧ k ≤ dn ∧ iv = .int .i64 ((k : Int) - 1) ∧ w2.ownsRow wo.heap.size 5 1 v (0 + (dn - k)) (Lib.byteCells ([] ++ (ds.drop k).reverse)) ∧ Below wo.heap.size wo w2)
      case atStart =>
        refine ⟨dn, rfl, Nat.le_refl _, rfl, ?_, hbm⟩
        rw [Nat.sub_self, List.drop_of_length_le (by rw [Hdn.out]; exact Nat.le_refl _)]
        exact hmade
      case round =>
        obtain ⟨k, hn2, hk, rfl, hown2, hb2⟩ := hrel
        by_cases hk0 : k = 0
        · subst hk0
          go_wp2
          go_ret
          have e1 : [] ++ (ds.drop 0).reverse = Lib.decDigits u := by rw [List.drop_zero, Hrev.out]; rfl
          rw [e1] at hown2
          have hlen : (Lib.decDigits u).length = 0 + (dn - 0) := by rw [← e1]; simp [Hdn.out]
          obtain ⟨g', cap', hv', hdc', hcm', hrd', hBg', hgs'⟩ := ownsRow_rd hown2 hlen (by omega)
          refine ⟨g', cap', ?_, by rw [hlen]; exact hdc', hcm', hrd', Nat.le_trans hb.size hBg', hgs', hb.trans (hb2.mono hb.size)⟩
          rw [hlen, ← hv']
          rfl
        · obtain ⟨j, rfl⟩ : ∃ j, k = j + 1 := ⟨k - 1, by omega⟩
          have d1 : wr.cell? ⟨g, j, none⟩ = some (.int .u8 ((ds.getD j 0).toNat : Int)) := by
            have := hrd j (by rw [Hdn.out]; omega)
            rw [Nat.zero_add, byteAt_toNat] at this
            exact (hb2.cell (p := ⟨g, j, none⟩) hgs).trans this
          have b0 : (0 : Int) ≤ j := by omega
          have b1 : (j : Int) < dn := by omega
          have hst := rev_step (ds := ds) (k := j) (by rw [Hdn.out]; omega)
          have Hst := Lib.hid hst
          obtain ⟨c, hc⟩ : ∃ c : UInt8, c = ds.getD j 0 := ⟨_, rfl⟩
          rw [← hc] at d1
          have Hc := Lib.hid hc
          clear hc hst
          obtain ⟨ln, hln⟩ : ∃ ln, ln = 0 + (dn - (j + 1)) := ⟨_, rfl⟩
          rw [← hln] at hown2
          have Hln := Lib.hid hln
          have hln2 : ln ≤ 21 := by omega
          clear hln
          have ej : ((j + 1 : Nat) : Int) - 1 = (j : Int) := by omega
          rw [ej]
          clear ej
          go_wp2_with (at_builtin; refine wpList_append_own _ rfl _ _ 23 rfl wo.heap.size 5 i0 (.int .u8 0) 1 1 Tryd.underlying23 hi hz0 hz1 hz2 rfl (by decide) _ _ _ rfl (hown2.alloc _) ⟨wr.heap.size, 0, none⟩ 1 1 [Value.int .u8 (c.toNat : Int)] rfl rfl ?c1 (by intro u' hu'; simp at hu'; subst hu'; rfl) (by unfold maxLen; omega) (by omega) (by have := hb2.size; simp; omega) ?_)
          case c1 =>
            intro j u' hj
            match j, hj with
            | 0, hj => simp at hj; subst hj; simp [Addr.add]
          intro v3 w3 hown3 hgrow3 _
          have hb3 : Below wo.heap.size wo w3 := (hb2.alloc hb2.size _).grown hgrow3 (by have := hb2.size; simp; omega) (fun k hk => (hown2.lt k hk).1)
          rw [bcs_snoc] at hown3
          have hown4 : w3.ownsRow wo.heap.size 5 1 v3 (ln + 1) (Lib.byteCells ([] ++ (ds.drop j).reverse)) := by
            rw [Hst.out, ← Hc.out]
            simpa using hown3
          clear hown2 hgrow3 hb2 d1 hown3
          go_wp2
          go_roundg j
          case measure => omega
          case rel =>
            refine ⟨j, rfl, by omega, by go_num, ?_, hb3⟩
            have hln := Hln.out
            rw [show 0 + (dn - j) = ln + 1 by omega]
            exact hown4
    · have hm1 : (0 : Int) < m := by omega
      have hmb : (m : Int) ≤ 9223372036854775808 := by omega
      go_wp2_with (at_builtin; refine wpList_append_own _ rfl _ _ 23 rfl w.heap.size 5 i0 (.int .u8 0) 1 1 Tryd.underlying23 hi hz0 hz1 hz2 rfl (by decide) _ _ _ rfl (hown.alloc _) ⟨wo.heap.size, 0, none⟩ 1 1 [Value.int .u8 (48 + (m : Int) % 10)] rfl rfl ?c1 (by intro u' hu'; simp at hu'; subst hu'; rfl) (by unfold maxLen; omega) (by omega) (by have := hb.size; simp; omega) ?_)
      case c1 =>
        intro j u' hj
        match j, hj with
        | 0, hj => simp at hj; subst hj; simp [Addr.add]
      intro v' w1 hown1 hgrow1 _
      have hb1 : Below w.heap.size w w1 := (hb.alloc hb.size _).grown hgrow1 (by have := hb.size; simp; omega) (fun k hk => (hown.lt k hk).1)
      rw [← ofNat_digit, bcs_snoc] at hown1
      have hst := HD.out.step hm
      have Hst := Lib.hid hst
      clear hst hown hgrow1 hb
      go_wp2
      go_roundg (m / 10)
      case measure => omega
      case rel => exact ⟨m / 10, ds ++ [UInt8.ofNat (48 + m % 10)], dn + 1, rfl, by omega, by go_num, Lib.hid (by rw [List.length_append, Hdn.out]; rfl), Hst, hown1, hb1⟩

set_option maxHeartbeats 1600000 in
set_option maxRecDepth 100000 in
theorem decimal_neg (u : Nat) (hu0 : u ≠ 0) (hu : (u : Int) ≤ 9223372036854775808) (w : World) :
    Calls Tryd.prog 26 #[.int .i64 (-(u : Int))] w fun e w' => ∃ g cap, e = .returned (.slice (some ⟨g, 0, none⟩) (negDigits u).length cap) ∧ (negDigits u).length ≤ cap ∧ cap ≤ maxLen ∧ Rd (negDigits u) g 0 w' ∧ w.heap.size ≤ g ∧ g < w'.heap.size ∧ Below w.heap.size w w' := by
  obtain ⟨i0, hi, hz0, hz1, hz2⟩ := info_parts Tryd.info5a
  have hneg : decide (-(u : Int) < 0) = true := by simp; omega
  have hup : decide (0 < u) = true := by simp; omega
  have hu0' : ((u : Int) == 0) = false := beq_eq_false_iff_ne.2 (by omega)
  have hwr : IntKind.u64.wrap (-IntKind.u64.wrap (-(u : Int))) = (u : Int) := by rw [IntKind.wrap_u64, IntKind.wrap_u64]; omega
  go_enter Tryd.func26, Tryd.ntmps26
  go_wp2
  clear hwr
  generalize IntKind.u64.wrap (-(u : Int)) = z
  go_loopg [4, 5] u (fun n mv v wr => ∃ (m : Nat) (ds : List UInt8) (dn : Nat), n = m ∧ m ≤ u ∧ mv = .int .u64 m ∧ Hid (ds.length = dn) ∧ Hid (DRel u m ds) ∧ wr.ownsRow w.heap.size 5 1 v dn (Lib.byteCells ds) ∧ Below w.heap.size w wr)
  case atStart => exact ⟨u, [], 0, rfl, Nat.le_refl _, rfl, Lib.hid rfl, Lib.hid (DRel.start hu0), World.ownsRow_nil _ _ _ _, Below.refl _ _⟩
  case round =>
    rename World => wo
    obtain ⟨m, ds, dn, hn, hmu, rfl, Hdn, HD, hown, hb⟩ := hrel
    have hdn : dn ≤ 20 := by have := HD.out.len (by omega); have := Hdn.out; omega
    by_cases hm : m = 0
    · subst hm
      have hrev := drel_done HD.out
      have hd1 : 1 ≤ dn := by have h1 := congrArg List.length hrev; rw [List.length_reverse] at h1; have := dec_pos u; have := Hdn.out; omega
      obtain ⟨g, cap, hv, hdc, hcm, hrd, hBg, hgs⟩ := ownsRow_rd hown Hdn.out hd1
      unfold maxLen at hcm
      rw [hv]
      have Hrev := Lib.hid hrev
      clear hrev hown HD hv
      obtain ⟨M, hM⟩ : ∃ M, M = madeCells (Value.int .u8 0).cells (((dn : Int) + 1).toNat * i0.size) := ⟨_, rfl⟩
      have hMs : M.size = dn + 1 := by rw [hM, size_madeCells, hz1]; simp
      have hmk : ∀ W : World, (Instr.makeSlice 23 (.int .i64 0) (.int .i64 ((dn : Int) + 1))).run Tryd.prog W = .ok (.slice (some ⟨W.heap.size, 0, none⟩) 0 (dn + 1)) (W.alloc (.cells M 5)) := fun W => by
        have h := run_makeSlice (P := Tryd.prog) W 23 5 i0 (.int .u8 0) Tryd.underlying23 hi hz0 .i64 .i64 0 ((dn : Int) + 1) (by omega) (by omega) (by rw [hz1]; omega) (by rw [hz2]; omega) (by omega)
        rw [← hM] at h
        rw [h]
        simp
      clear hM
      have hmade : (wo.alloc (.cells M 5)).ownsRow wo.heap.size 5 1 (.slice (some ⟨wo.heap.size, 0, none⟩) 0 (dn + 1)) 0 [] := World.ownsRow_made wo M (dn + 1) (Nat.le_refl _) (by unfold maxLen; omega) (by omega)
      have hbm : Below wo.heap.size wo (wo.alloc (.cells M 5)) := (Below.refl _ wo).alloc (Nat.le_refl _) _
      have HMs := Lib.hid hMs
      clear hMs
      go_wp2_with (at_builtin; refine wpList_append_own _ rfl _ _ 23 rfl wo.heap.size 5 i0 (.int .u8 0) 1 1 Tryd.underlying23 hi hz0 hz1 hz2 rfl (by decide) _ _ _ rfl (hmade.alloc _) ⟨wo.heap.size + 1, 0, none⟩ 1 1 [Value.int .u8 45] rfl rfl ?c1 (by intro u' hu'; simp at hu'; subst hu'; rfl) (by unfold maxLen; omega) (by omega) (by simp; omega) ?_)
      case c1 =>
        intro j u' hj
        match j, hj with
        | 0, hj => simp at hj; subst hj; simp [Addr.add]
      intro vo w1 hown1 hgrow1 _
      have hb1 : Below wo.heap.size wo w1 := (hbm.alloc (by simp) _).grown hgrow1 (by simp; omega) (fun k hk => (hmade.lt k hk).1)
      clear hmade hbm hgrow1 hmk HMs
      go_wp2
      go_loopg [6, 7] dn (fun n v iv w2 => ∃ k : Nat, n = k ∧ k ≤ dn ∧ iv = .int .i64 ((k : Int) - 1) ∧ w2.ownsRow wo.heap.size 5 1 v (1 + (dn - k)) (Lib.byteCells ([45] ++ (ds.drop k).reverse)) ∧ Below wo.heap.size wo w2)
      case atStart =>
        refine ⟨dn, rfl, Nat.le_refl _, rfl, ?_, hb1⟩
        rw [Nat.sub_self, List.drop_of_length_le (by rw [Hdn.out]; exact Nat.le_refl _)]
        exact hown1
      case round =>
        obtain ⟨k, hn2, hk, rfl, hown2, hb2⟩ := hrel
        by_cases hk0 : k = 0
        · subst hk0
          go_wp2
          go_ret
          have e1 : [45] ++ (ds.drop 0).reverse = negDigits u := by rw [List.drop_zero, Hrev.out]; rfl
          rw [e1] at hown2
          have hlen : (negDigits u).length = 1 + (dn - 0) := by rw [← e1]; simp [Hdn.out]; omega
          obtain ⟨g', cap', hv', hdc', hcm', hrd', hBg', hgs'⟩ := ownsRow_rd hown2 hlen (by omega)
          refine ⟨g', cap', ?_, by rw [hlen]; exact hdc', hcm', hrd', Nat.le_trans hb.size hBg', hgs', hb.trans (hb2.mono hb.size)⟩
          rw [hlen, ← hv']
          rfl
        · obtain ⟨j, rfl⟩ : ∃ j, k = j + 1 := ⟨k - 1, by omega⟩
          have d1 : wr.cell? ⟨g, j, none⟩ = some (.int .u8 ((ds.getD j 0).toNat : Int)) := by
            have := hrd j (by rw [Hdn.out]; omega)
            rw [Nat.zero_add, byteAt_toNat] at this
            exact (hb2.cell (p := ⟨g, j, none⟩) hgs).trans this
          have b0 : (0 : Int) ≤ j := by omega
          have b1 : (j : Int) < dn := by omega
          have hst := rev_step (ds := ds) (k := j) (by rw [Hdn.out]; omega)
          have Hst := Lib.hid hst
          obtain ⟨c, hc⟩ : ∃ c : UInt8, c = ds.getD j 0 := ⟨_, rfl⟩
          rw [← hc] at d1
          have Hc := Lib.hid hc
          clear hc hst
          obtain ⟨ln, hln⟩ : ∃ ln, ln = 1 + (dn - (j + 1)) := ⟨_, rfl⟩
          rw [← hln] at hown2
          have Hln := Lib.hid hln
          have hln2 : ln ≤ 21 := by omega
          clear hln
          have ej : ((j + 1 : Nat) : Int) - 1 = (j : Int) := by omega
          rw [ej]
          clear ej
          go_wp2_with (at_builtin; refine wpList_append_own _ rfl _ _ 23 rfl wo.heap.size 5 i0 (.int .u8 0) 1 1 Tryd.underlying23 hi hz0 hz1 hz2 rfl (by decide) _ _ _ rfl (hown2.alloc _) ⟨wr.heap.size, 0, none⟩ 1 1 [Value.int .u8 (c.toNat : Int)] rfl rfl ?c1 (by intro u' hu'; simp at hu'; subst hu'; rfl) (by unfold maxLen; omega) (by omega) (by have := hb2.size; simp; omega) ?_)
          case c1 =>
            intro j u' hj
            match j, hj with
            | 0, hj => simp at hj; subst hj; simp [Addr.add]
          intro v3 w3 hown3 hgrow3 _
          have hb3 : Below wo.heap.size wo w3 := (hb2.alloc hb2.size _).grown hgrow3 (by have := hb2.size; simp; omega) (fun k hk => (hown2.lt k hk).1)
          rw [bcs_snoc] at hown3
          have hown4 : w3.ownsRow wo.heap.size 5 1 v3 (ln + 1) (Lib.byteCells ([45] ++ (ds.drop j).reverse)) := by
            rw [Hst.out, ← Hc.out]
            simpa using hown3
          clear hown2 hgrow3 hb2 d1 hown3
          go_wp2
          go_roundg j
          case measure => omega
          case rel =>
            refine ⟨j, rfl, by omega, by go_num, ?_, hb3⟩
            have hln := Hln.out
            rw [show 1 + (dn - j) = ln + 1 by omega]
            exact hown4
    · have hm1 : (0 : Int) < m := by omega
      have hmb : (m : Int) ≤ 9223372036854775808 := by omega
      go_wp2_with (at_builtin; refine wpList_append_own _ rfl _ _ 23 rfl w.heap.size 5 i0 (.int .u8 0) 1 1 Tryd.underlying23 hi hz0 hz1 hz2 rfl (by decide) _ _ _ rfl (hown.alloc _) ⟨wo.heap.size, 0, none⟩ 1 1 [Value.int .u8 (48 + (m : Int) % 10)] rfl rfl ?c1 (by intro u' hu'; simp at hu'; subst hu'; rfl) (by unfold maxLen; omega) (by omega) (by have := hb.size; simp; omega) ?_)
      case c1 =>
        intro j u' hj
        match j, hj with
        | 0, hj => simp at hj; subst hj; simp [Addr.add]
      intro v' w1 hown1 hgrow1 _
      have hb1 : Below w.heap.size w w1 := (hb.alloc hb.size _).grown hgrow1 (by have := hb.size; simp; omega) (fun k hk => (hown.lt k hk).1)
      rw [← ofNat_digit, bcs_snoc] at hown1
      have hst := HD.out.step hm
      have Hst := Lib.hid hst
      clear hst hown hgrow1 hb
      go_wp2
      go_roundg (m / 10)
      case measure => omega
      case rel => exact ⟨m / 10, ds ++ [UInt8.ofNat (48 + m % 10)], dn + 1, rfl, by omega, by go_num, Lib.hid (by rw [List.length_append, Hdn.out]; rfl), Hst, hown1, hb1⟩

set_option maxHeartbeats 1600000 in
set_option maxRecDepth 100000 in
theorem decimal_zero (u : Nat) (hu0 : u = 0) (w : World) :
    Calls Tryd.prog 26 #[.int .i64 0] w fun e w' => ∃ g cap, e = .returned (.slice (some ⟨g, 0, none⟩) (Lib.decDigits u).length cap) ∧ (Lib.decDigits u).length ≤ cap ∧ cap ≤ maxLen ∧ Rd (Lib.decDigits u) g 0 w' ∧ w.heap.size ≤ g ∧ g < w'.heap.size ∧ Below w.heap.size w w' := by
  obtain ⟨i0, hi, hz0, hz1, hz2⟩ := info_parts Tryd.info5a
  have hu : (u : Int) ≤ 9223372036854775807 := by omega
  go_enter Tryd.func26, Tryd.ntmps26
  go_wp2_with (at_builtin; refine wpList_append_own _ rfl _ _ 23 rfl w.heap.size 5 i0 (.int .u8 0) 1 1 Tryd.underlying23 hi hz0 hz1 hz2 rfl (by decide) _ _ _ rfl (World.ownsRow_nil _ _ _ _) ⟨w.heap.size, 0, none⟩ 1 1 [Value.int .u8 48] rfl rfl ?c1 (by intro u' hu'; simp at hu'; subst hu'; rfl) (by unfold maxLen; omega) (by omega) (by simp) ?_)
  case c1 =>
    intro j u' hj
    match j, hj with
    | 0, hj => simp at hj; subst hj; simp [Addr.add]
  intro v0 w0 hown0 hgrow0 _
  have hb0 : Below w.heap.size w w0 := ((Below.refl _ w).alloc (Nat.le_refl _) _).grown hgrow0 (by simp) (fun k hk => by simp [Value.ownBlock] at hk)
  clear hgrow0
  go_wp2
  go_loopg [4, 5] u (fun n mv v wr => ∃ (m : Nat) (ds : List UInt8) (dn : Nat), n = m ∧ m ≤ u ∧ mv = .int .u64 m ∧ Hid (ds.length = dn) ∧ Hid (DRel u m ds) ∧ wr.ownsRow w.heap.size 5 1 v dn (Lib.byteCells ds) ∧ Below w.heap.size w wr)
  case atStart => exact ⟨0, [48], 1, hu0, Nat.zero_le _, rfl, Lib.hid rfl, Lib.hid (hu0 ▸ drel_zero), hown0, hb0⟩
  case round =>
    rename World => wo
    obtain ⟨m, ds, dn, hn, hmu, rfl, Hdn, HD, hown, hb⟩ := hrel
    have hdn : dn ≤ 20 := by have := HD.out.len (by omega); have := Hdn.out; omega
    by_cases hm : m = 0
    · subst hm
      have hrev := drel_done HD.out
      have hd1 : 1 ≤ dn := by have h1 := congrArg List.length hrev; rw [List.length_reverse] at h1; have := dec_pos u; have := Hdn.out; omega
      obtain ⟨g, cap, hv, hdc, hcm, hrd, hBg, hgs⟩ := ownsRow_rd hown Hdn.out hd1
      unfold maxLen at hcm
      rw [hv]
      have Hrev := Lib.hid hrev
      clear hrev hown HD hv
      obtain ⟨M, hM⟩ : ∃ M, M = madeCells (Value.int .u8 0).cells (((dn : Int) + 1).toNat * i0.size) := ⟨_, rfl⟩
      have hMs : M.size = dn + 1 := by rw [hM, size_madeCells, hz1]; simp
      have hmk : ∀ W : World, (Instr.makeSlice 23 (.int .i64 0) (.int .i64 ((dn : Int) + 1))).run Tryd.prog W = .ok (.slice (some ⟨W.heap.size, 0, none⟩) 0 (dn + 1)) (W.alloc (.cells M 5)) := fun W => by
        have h := run_makeSlice (P := Tryd.prog) W 23 5 i0 (.int .u8 0) Tryd.underlying23 hi hz0 .i64 .i64 0 ((dn : Int) + 1) (by omega) (by omega) (by rw [hz1]; omega) (by rw [hz2]; omega) (by omega)
        rw [← hM] at h
        rw [h]
        simp
      clear hM
      have hmade : (wo.alloc (.cells M 5)).ownsRow wo.heap.size 5 1 (.slice (some ⟨wo.heap.size, 0, none⟩) 0 (dn + 1)) 0 [] := World.ownsRow_made wo M (dn + 1) (Nat.le_refl _) (by unfold maxLen; omega) (by omega)
      have hbm : Below wo.heap.size wo (wo.alloc (.cells M 5)) := (Below.refl _ wo).alloc (Nat.le_refl _) _
      have HMs := Lib.hid hMs
      clear hMs
      go_wp2
      clear hmk HMs
      go_loopg [6, 7] dn (fun n v iv w2 => ∃ k : Nat, n = k ∧ k ≤ dn ∧ iv = .int .i64 ((k : Int) - 1) ∧ w2.ownsRow wo.heap.size 5 1 v (0 + (dn - k)) (Lib.byteCells ([] ++ (ds.drop k).reverse)) ∧ Below wo.heap.size wo w2)
      case atStart =>
        refine ⟨dn, rfl, Nat.le_refl _, rfl, ?_, hbm⟩
        rw [Nat.sub_self, List.drop_of_length_le (by rw [Hdn.out]; exact Nat.le_refl _)]
        exact hmade
      case round =>
        obtain ⟨k, hn2, hk, rfl, hown2, hb2⟩ := hrel
        by_cases hk0 : k = 0
        · subst hk0
          go_wp2
          go_ret
          have e1 : [] ++ (ds.drop 0).reverse = Lib.decDigits u := by rw [List.drop_zero, Hrev.out]; rfl
          rw [e1] at hown2
          have hlen : (Lib.decDigits u).length = 0 + (dn - 0) := by rw [← e1]; simp [Hdn.out]
          obtain ⟨g', cap', hv', hdc', hcm', hrd', hBg', hgs'⟩ := ownsRow_rd hown2 hlen (by omega)
          refine ⟨g', cap', ?_, by rw [hlen]; exact hdc', hcm', hrd', Nat.le_trans hb.size hBg', hgs', hb.trans (hb2.mono hb.size)⟩
          rw [hlen, ← hv']
          rfl
        · obtain ⟨j, rfl⟩ : ∃ j, k = j + 1 := ⟨k - 1, by omega⟩
          have d1 : wr.cell? ⟨g, j, none⟩ = some (.int .u8 ((ds.getD j 0).toNat : Int)) := by
            have := hrd j (by rw [Hdn.out]; omega)
            rw [Nat.zero_add, byteAt_toNat] at this
            exact (hb2.cell (p := ⟨g, j, none⟩) hgs).trans this
          have b0 : (0 : Int) ≤ j := by omega
          have b1 : (j : Int) < dn := by omega
          have hst := rev_step (ds := ds) (k := j) (by rw [Hdn.out]; omega)
          have Hst := Lib.hid hst
          obtain ⟨c, hc⟩ : ∃ c : UInt8, c = ds.getD j 0 := ⟨_, rfl⟩
          rw [← hc] at d1
          have Hc := Lib.hid hc
          clear hc hst
          obtain ⟨ln, hln⟩ : ∃ ln, ln = 0 + (dn - (j + 1)) := ⟨_, rfl⟩
          rw [← hln] at hown2
          have Hln := Lib.hid hln
          have hln2 : ln ≤ 21 := by omega
          clear hln
          have ej : ((j + 1 : Nat) : Int) - 1 = (j : Int) := by omega
          rw [ej]
          clear ej
          go_wp2_with (at_builtin; refine wpList_append_own _ rfl _ _ 23 rfl wo.heap.size 5 i0 (.int .u8 0) 1 1 Tryd.underlying23 hi hz0 hz1 hz2 rfl (by decide) _ _ _ rfl (hown2.alloc _) ⟨wr.heap.size, 0, none⟩ 1 1 [Value.int .u8 (c.toNat : Int)] rfl rfl ?c1 (by intro u' hu'; simp at hu'; subst hu'; rfl) (by unfold maxLen; omega) (by omega) (by have := hb2.size; simp; omega) ?_)
          case c1 =>
            intro j u' hj
            match j, hj with
            | 0, hj => simp at hj; subst hj; simp [Addr.add]
          intro v3 w3 hown3 hgrow3 _
          have hb3 : Below wo.heap.size wo w3 := (hb2.alloc hb2.size _).grown hgrow3 (by have := hb2.size; simp; omega) (fun k hk => (hown2.lt k hk).1)
          rw [bcs_snoc] at hown3
          have hown4 : w3.ownsRow wo.heap.size 5 1 v3 (ln + 1) (Lib.byteCells ([] ++ (ds.drop j).reverse)) := by
            rw [Hst.out, ← Hc.out]
            simpa using hown3
          clear hown2 hgrow3 hb2 d1 hown3
          go_wp2
          go_roundg j
          case measure => omega
          case rel =>
            refine ⟨j, rfl, by omega, by go_num, ?_, hb3⟩
            have hln := Hln.out
            rw [show 0 + (dn - j) = ln + 1 by omega]
            exact hown4
    · exact absurd hmu (by omega)

/-- zzDecimal: n's decimal numeral, in a new row. -/
theorem decimal (n : Int) (h0 : -9223372036854775808 ≤ n) (h1 : n ≤ 9223372036854775807) (w : World) :
    Calls Tryd.prog 26 #[.int .i64 n] w fun e w' => ∃ g cap, e = .returned (.slice (some ⟨g, 0, none⟩) (Lib.itoa n).length cap) ∧ (Lib.itoa n).length ≤ cap ∧ cap ≤ maxLen ∧ Rd (Lib.itoa n) g 0 w' ∧ w.heap.size ≤ g ∧ g < w'.heap.size ∧ Below w.heap.size w w' := by
  by_cases hneg : n < 0
  · obtain ⟨u, rfl⟩ : ∃ u : Nat, n = -(u : Int) := ⟨n.natAbs, by omega⟩
    rw [Lib.itoa_neg u (by omega)]
    exact decimal_neg u (by omega) (by omega) w
  · obtain ⟨u, rfl⟩ : ∃ u : Nat, n = u := ⟨n.toNat, by omega⟩
    rw [Lib.itoa_nonneg]
    by_cases hu : u = 0
    · have := decimal_zero u hu w
      rw [hu] at this ⊢
      exact this
    · exact decimal_pos u hu (by omega) w

end Go.Proofs.Qxb6616850aDoor
