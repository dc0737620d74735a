/-
  A GridFields by value, opened.
-/
import Derived.Test.Qxb6617129aMk
import Derived.Test.Qxb6617129aRows
import Derived.ProofKit
import Derived.Deep.Grids
import Derived.Deep.Fields
namespace Go.Proofs.Qxb6617129a
open Go.Deep Go.ChangeShapes Go.WideShapes Go.ChangeAt Go.RowKit

theorem cells41 : Try.prog.cellsOf 41 = 1 := by kernel_rfl
theorem cells3 : Try.prog.cellsOf 3 = 1 := by kernel_rfl
theorem cells4 : Try.prog.cellsOf 4 = 1 := by kernel_rfl

theorem Try.own : ownKnob Try.prog.godebug = none := by kernel_rfl
theorem Try.laidOut : laidOutB Try.prog = true := by kernel_rfl

section
variable {H : Type} {enc : TypeId × Value → H} {P : Program} {w : World} {base : Nat} {spare : Nat → Bool} {held : Bool}
theorem trodAll_five {t0 t1 t2 t3 t4 : TypeId} {args : Array Value} {ds : List (DataW H)} {ps : List MemPlace} (h : DataW.TrodAll enc P w base spare held [t0, t1, t2, t3, t4] args.toList ds ps) :
    ∃ v0 v1 v2 v3 v4 d0 d1 d2 d3 d4 p0 p1 p2 p3 p4, args = #[v0, v1, v2, v3, v4] ∧ ds = [d0, d1, d2, d3, d4] ∧ ps = p0 ++ p1 ++ p2 ++ p3 ++ p4 ∧ DataW.Trod enc P w base spare held t0 v0 d0 p0 ∧ DataW.Trod enc P w base spare held t1 v1 d1 p1 ∧ DataW.Trod enc P w base spare held t2 v2 d2 p2 ∧ DataW.Trod enc P w base spare held t3 v3 d3 p3 ∧ DataW.Trod enc P w base spare held t4 v4 d4 p4 := by
  obtain ⟨v0, vs0, d0, ds0, p0, q0, hargs, rfl, rfl, h0, r0⟩ := trodAll_cons h
  obtain ⟨v1, vs1, d1, ds1, p1, q1, rfl, rfl, rfl, h1, r1⟩ := trodAll_cons r0
  obtain ⟨v2, vs2, d2, ds2, p2, q2, rfl, rfl, rfl, h2, r2⟩ := trodAll_cons r1
  obtain ⟨v3, vs3, d3, ds3, p3, q3, rfl, rfl, rfl, h3, r3⟩ := trodAll_cons r2
  obtain ⟨v4, vs4, d4, ds4, p4, q4, rfl, rfl, rfl, h4, r4⟩ := trodAll_cons r3
  obtain ⟨rfl, rfl, rfl⟩ := trodAll_nil r4
  exact ⟨v0, v1, v2, v3, v4, d0, d1, d2, d3, d4, p0, p1, p2, p3, p4, by cases args; simp_all, rfl, by simp, h0, h1, h2, h3, h4⟩
theorem trodAll_mk5 {t0 t1 t2 t3 t4 : TypeId} {v0 v1 v2 v3 v4 : Value} {d0 d1 d2 d3 d4 : DataW H} {p0 p1 p2 p3 p4 : List MemPlace} (h0 : DataW.Trod enc P w base spare held t0 v0 d0 p0) (h1 : DataW.Trod enc P w base spare held t1 v1 d1 p1)
    (h2 : DataW.Trod enc P w base spare held t2 v2 d2 p2) (h3 : DataW.Trod enc P w base spare held t3 v3 d3 p3) (h4 : DataW.Trod enc P w base spare held t4 v4 d4 p4) :
    DataW.TrodAll enc P w base spare held [t0, t1, t2, t3, t4] [v0, v1, v2, v3, v4] [d0, d1, d2, d3, d4] (p0 ++ (p1 ++ (p2 ++ (p3 ++ p4)))) :=
  ⟨p0, _, h0, ⟨p1, _, h1, trodAll_mk3 h2 h3 h4, rfl⟩, rfl⟩
end

section
variable {H : Type} {enc : TypeId × Value → H} {W : World}

theorem rs_of_vals {T : Value → Prop} {a : Addr} {len cap : Nat} {V : Nat → Value} (hl : len ≤ cap) (hm : cap ≤ maxLen) (hc : ∀ i, i < cap → W.cell? (a.add i) = some (V i)) (ht : ∀ i, i < cap → T (V i)) :
    Rs (fun k => k < W.heap.size) T ((List.range len).map V) (some a) len cap W := by
  refine ⟨by simp, hl, by unfold maxLen at hm; omega, fun v hv => ?_, (fun e => by cases e), fun h0 => ?_⟩
  · rw [List.mem_map] at hv
    obtain ⟨i, hi, rfl⟩ := hv
    exact ht i (by have := List.mem_range.1 hi; omega)
  · obtain ⟨b, off, spot⟩ := a
    have hspot : spot = none := by simpa [Addr.add] using World.cell?_spot (hc 0 (by omega))
    subst hspot
    refine ⟨b, off, rfl, World.block_lt_of_cell? W _ (hc 0 (by omega)), fun j hj => ?_⟩
    have := hc j (by omega)
    rw [add_plain] at this
    rw [this]
    simp [List.getD, hj]

theorem rs_nil {T : Value → Prop} : Rs (fun k => k < W.heap.size) T [] none 0 0 W :=
  ⟨rfl, Nat.le_refl _, by omega, (fun _ h => by cases h), (fun _ => ⟨rfl, rfl⟩), (fun h => by omega)⟩

theorem open_u {fuel : Nat} {v : Value} {y : DataW H × List MemPlace} (h : DataW.trod enc Try.prog W 0 (fun _ => true) true fuel 22 [v] = some y) :
    ∃ (s : SV) (xs : List Value), v = .slice s.ao s.n s.c ∧ Rs (fun k => k < W.heap.size) IsU xs s.ao s.n s.c W := by
  rcases open_ints Try.underlying22 Try.underlying41 cells41 h with ⟨e, _⟩ | ⟨a, len, cap, zs, e, _, hl, hm, hz, _, hc, hw⟩
  · simp at e
    exact ⟨⟨none, 0, 0⟩, [], e, rs_nil⟩
  · simp at e
    simp only [if_true] at hz
    refine ⟨⟨some a, len, cap⟩, _, e, rs_of_vals (V := fun i => .int .u64 (zs.getD i 0)) hl hm (fun i (hi : i < cap) => hc i (by omega)) fun i (hi : i < cap) => ?_⟩
    have hm2 : zs.getD i 0 ∈ zs := by
      have hi2 : i < zs.length := by omega
      simp [List.getD, List.getElem?_eq_getElem hi2]
    have := hw _ hm2
    obtain ⟨z, hz2⟩ : ∃ z, z = zs.getD i 0 := ⟨_, rfl⟩
    rw [← hz2] at this ⊢
    simp [Lit.wf, IntKind.min, IntKind.max, IntKind.signed, IntKind.bits] at this
    exact ⟨z.toNat, by simp only [Value.int.injEq, true_and]; omega, by omega⟩

theorem open_i {fuel : Nat} {v : Value} {y : DataW H × List MemPlace} (h : DataW.trod enc Try.prog W 0 (fun _ => true) true fuel 23 [v] = some y) :
    ∃ (s : SV) (xs : List Value), v = .slice s.ao s.n s.c ∧ Rs (fun k => k < W.heap.size) IsI xs s.ao s.n s.c W := by
  rcases open_ints Try.underlying23 Try.underlying3 cells3 h with ⟨e, _⟩ | ⟨a, len, cap, zs, e, _, hl, hm, hz, _, hc, _⟩
  · simp at e
    exact ⟨⟨none, 0, 0⟩, [], e, rs_nil⟩
  · simp at e
    simp only [if_true] at hz
    exact ⟨⟨some a, len, cap⟩, _, e, rs_of_vals (V := fun i => .int .i64 (zs.getD i 0)) hl hm (fun i (hi : i < cap) => hc i (by omega)) fun i _ => ⟨_, rfl⟩⟩

theorem open_b {fuel : Nat} {v : Value} {y : DataW H × List MemPlace} (h : DataW.trod enc Try.prog W 0 (fun _ => true) true fuel 24 [v] = some y) :
    ∃ (s : SV) (xs : List Value), v = .slice s.ao s.n s.c ∧ Rs (fun k => k < W.heap.size) IsB xs s.ao s.n s.c W := by
  rcases open_bools Try.underlying24 Try.underlying4 cells4 h with ⟨e, _⟩ | ⟨a, len, cap, B, e, _, hl, hm, _, hc⟩
  · simp at e
    exact ⟨⟨none, 0, 0⟩, [], e, rs_nil⟩
  · simp at e
    exact ⟨⟨some a, len, cap⟩, _, e, rs_of_vals (V := fun i => .bool (B i)) hl hm hc fun i _ => ⟨_, rfl⟩⟩

theorem open_n {fuel : Nat} {v : Value} {y : DataW H × List MemPlace} (h : DataW.trod enc Try.prog W 0 (fun _ => true) true fuel 3 [v] = some y) : ∃ n : Int, v = .int .i64 n := by
  obtain ⟨n, e, _⟩ := DataW.trod_int Try.underlying3 h
  exact ⟨n, by simpa using e⟩

theorem array12 {α : Type} {cs : Array α} (h : cs.size = 12) : ∃ c0 c1 c2 c3 c4 c5 c6 c7 c8 c9 c10 c11, cs = #[c0, c1, c2, c3, c4, c5, c6, c7, c8, c9, c10, c11] := by
  obtain ⟨l⟩ := cs
  match l, h with
  | [c0, c1, c2, c3, c4, c5, c6, c7, c8, c9, c10, c11], _ => exact ⟨c0, c1, c2, c3, c4, c5, c6, c7, c8, c9, c10, c11, rfl⟩
theorem list12 {α : Type} {l : List α} (h : l.length = 12) : ∃ c0 c1 c2 c3 c4 c5 c6 c7 c8 c9 c10 c11, l = [c0, c1, c2, c3, c4, c5, c6, c7, c8, c9, c10, c11] := by
  match l, h with
  | [c0, c1, c2, c3, c4, c5, c6, c7, c8, c9, c10, c11], _ => exact ⟨c0, c1, c2, c3, c4, c5, c6, c7, c8, c9, c10, c11, rfl⟩

theorem cells22 : Try.prog.cellsOf 22 = 1 := by kernel_rfl
theorem cells23 : Try.prog.cellsOf 23 = 1 := by kernel_rfl
theorem cells24 : Try.prog.cellsOf 24 = 1 := by kernel_rfl
theorem c26 : Try.prog.cellsOf 26 = 12 := by kernel_rfl

theorem open_grid {base : Nat} {v : Value} {d : DataW H} {p : List MemPlace} (hv : Value.okWide Try.prog W .any base 26 v) (h : DataW.Trod enc Try.prog W 0 (fun _ => true) true 26 v d p) :
    ∃ (g : GA) (x : GX), v = g.val ∧ GRd (fun k => k < W.heap.size) g x W := by
  obtain ⟨cs, rfl, hsz⟩ := okWide_struct Try.underlying26 hv
  obtain ⟨c0, c1, c2, c3, c4, c5, c6, c7, c8, c9, c10, c11, rfl⟩ := array12 (hsz.trans c26)
  obtain ⟨fuel, hf⟩ := h
  obtain ⟨xs, n, _, _, _, hlen, hx⟩ := DataW.trod_struct Try.underlying26 hf
  obtain ⟨y0, y1, y2, y3, y4, y5, y6, y7, y8, y9, y10, y11, rfl⟩ := list12 (hlen.trans (by rfl))
  have f0 : DataW.trod enc Try.prog W 0 (fun _ => true) true n 3 [c0] = some y0 := by simpa [Value.cells, cells3] using hx 0 _ rfl
  have f1 : DataW.trod enc Try.prog W 0 (fun _ => true) true n 3 [c1] = some y1 := by simpa [Value.cells, cells3] using hx 1 _ rfl
  have f2 : DataW.trod enc Try.prog W 0 (fun _ => true) true n 3 [c2] = some y2 := by simpa [Value.cells, cells3] using hx 2 _ rfl
  have f3 : DataW.trod enc Try.prog W 0 (fun _ => true) true n 22 [c3] = some y3 := by simpa [Value.cells, cells22] using hx 3 _ rfl
  have f4 : DataW.trod enc Try.prog W 0 (fun _ => true) true n 22 [c4] = some y4 := by simpa [Value.cells, cells22] using hx 4 _ rfl
  have f5 : DataW.trod enc Try.prog W 0 (fun _ => true) true n 22 [c5] = some y5 := by simpa [Value.cells, cells22] using hx 5 _ rfl
  have f6 : DataW.trod enc Try.prog W 0 (fun _ => true) true n 22 [c6] = some y6 := by simpa [Value.cells, cells22] using hx 6 _ rfl
  have f7 : DataW.trod enc Try.prog W 0 (fun _ => true) true n 3 [c7] = some y7 := by simpa [Value.cells, cells3] using hx 7 _ rfl
  have f8 : DataW.trod enc Try.prog W 0 (fun _ => true) true n 23 [c8] = some y8 := by simpa [Value.cells, cells23] using hx 8 _ rfl
  have f9 : DataW.trod enc Try.prog W 0 (fun _ => true) true n 22 [c9] = some y9 := by simpa [Value.cells, cells22] using hx 9 _ rfl
  have f10 : DataW.trod enc Try.prog W 0 (fun _ => true) true n 24 [c10] = some y10 := by simpa [Value.cells, cells24] using hx 10 _ rfl
  have f11 : DataW.trod enc Try.prog W 0 (fun _ => true) true n 23 [c11] = some y11 := by simpa [Value.cells, cells23] using hx 11 _ rfl
  obtain ⟨z0, rfl⟩ := open_n f0
  obtain ⟨z1, rfl⟩ := open_n f1
  obtain ⟨z2, rfl⟩ := open_n f2
  obtain ⟨s3, x3, rfl, r3⟩ := open_u f3
  obtain ⟨s4, x4, rfl, r4⟩ := open_u f4
  obtain ⟨s5, x5, rfl, r5⟩ := open_u f5
  obtain ⟨s6, x6, rfl, r6⟩ := open_u f6
  obtain ⟨z7, rfl⟩ := open_n f7
  obtain ⟨s8, x8, rfl, r8⟩ := open_i f8
  obtain ⟨s9, x9, rfl, r9⟩ := open_u f9
  obtain ⟨s10, x10, rfl, r10⟩ := open_b f10
  obtain ⟨s11, x11, rfl, r11⟩ := open_i f11
  exact ⟨⟨z0, z1, z2, s3, s4, s5, s6, z7, s8, s9, s10, s11⟩, ⟨x3, x4, x5, x6, x8, x9, x10, x11⟩, rfl, ⟨r3, r4, r5, r6, r8, r9, r10, r11⟩⟩

end

end Go.Proofs.Qxb6617129a
