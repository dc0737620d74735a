/-
  A clone, built, reset, read: what its slices read as. No walk.
-/
import Derived.Test.Qxb6617129aClg
namespace Go.Proofs.Qxb6617129a
open Go.RowKit

/-- The clone's protected blocks: what was there before, and the rows that Reset and loadRows leave alone. -/
def PtC (B m e : Nat) (k : Nat) : Prop := k < B ∨ (m ≤ k ∧ k < e)
def X3 (x : GX) : Fin 3 → List Value
  | 0 => x.h
  | 1 => x.a
  | 2 => x.u

/-- What the contents must be. -/
structure Ty (x : GX) : Prop where
  h : ∀ v ∈ x.h, IsU v
  a : ∀ v ∈ x.a, IsU v
  u : ∀ v ∈ x.u, IsU v
  ce : ∀ v ∈ x.ce, IsU v
  ch : ∀ v ∈ x.ch, IsI v
  co : ∀ v ∈ x.co, IsU v
  sk : ∀ v ∈ x.sk, IsB v
  ss : ∀ v ∈ x.ss, IsI v
theorem GRd.tys {Pt : Nat → Prop} {g : GA} {x : GX} {w : World} (h : GRd Pt g x w) : Ty x :=
  ⟨h.h.ty, h.a.ty, h.u.ty, h.ce.ty, h.ch.ty, h.co.ty, h.sk.ty, h.ss.ty⟩

theorem Ow.rs {E n : Nat} {xs : List Value} {s : SV} {lo hi : Nat} {w : World} {T : Value → Prop} (h : Ow E n xs s lo hi w) (ht : ∀ v ∈ xs, T v) : Rs (fun k => lo ≤ k ∧ k < hi) T xs s.ao s.n s.c w := by
  obtain ⟨ao, c, e, r⟩ := rs_of_own h.own ht
  have e1 : s.ao = ao := by unfold SV.v at e; injection e
  have e2 : s.c = c := by unfold SV.v at e; injection e
  rw [e1, e2, h.len]
  exact r.mono fun k hk => h.rng k hk
theorem own_rs {E n : Nat} {xs : List Value} {s : SV} {w : World} {T : Value → Prop} (h : w.ownsRow 0 E 1 s.v n xs) (ht : ∀ v ∈ xs, T v) : Rs (fun k => k < w.heap.size) T xs s.ao n s.c w := by
  obtain ⟨ao, c, e, r⟩ := rs_of_own h ht
  have e1 : s.ao = ao := by unfold SV.v at e; injection e
  have e2 : s.c = c := by unfold SV.v at e; injection e
  rw [e1, e2]
  exact r.mono fun k hk => own_lt h hk

/-- All but the flags. -/
structure GR7 (Pt : Nat → Prop) (g : GA) (x : GX) (w : World) : Prop where
  h : Rs Pt IsU x.h g.h.ao g.h.n g.h.c w
  a : Rs Pt IsU x.a g.a.ao g.a.n g.a.c w
  u : Rs Pt IsU x.u g.u.ao g.u.n g.u.c w
  ce : Rs Pt IsU x.ce g.ce.ao g.ce.n g.ce.c w
  ch : Rs Pt IsI x.ch g.ch.ao g.ch.n g.ch.c w
  co : Rs Pt IsU x.co g.co.ao g.co.n g.co.c w
  ss : Rs Pt IsI x.ss g.ss.ao g.ss.n g.ss.c w
theorem GR7.kept {Pt : Nat → Prop} {g : GA} {x : GX} {w w' : World} (h : GR7 Pt g x w) (k : Kept Pt w w') : GR7 Pt g x w' :=
  ⟨h.h.kept k, h.a.kept k, h.u.kept k, h.ce.kept k, h.ch.kept k, h.co.kept k, h.ss.kept k⟩
theorem GR7.mono {Pt Qt : Nat → Prop} {g : GA} {x : GX} {w : World} (h : GR7 Pt g x w) (k : ∀ i, Pt i → Qt i) : GR7 Qt g x w :=
  ⟨h.h.mono k, h.a.mono k, h.u.mono k, h.ce.mono k, h.ch.mono k, h.co.mono k, h.ss.mono k⟩
theorem GRd.seven {Pt : Nat → Prop} {g : GA} {x : GX} {w : World} (h : GRd Pt g x w) : GR7 Pt g x w := ⟨h.h, h.a, h.u, h.ce, h.ch, h.co, h.ss⟩

/-- zzBuild's Grid. -/
theorem Cl.gr {g g' : GA} {x : GX} {B m1 m2 m3 : Nat} {w w' : World} (h : Cl g x B m1 m2 m3 g' w) (hw : w' = (w.alloc (.cells g'.cells 26)).alloc (.cells g'.cells 52)) :
    Gr (PtC B m3 w.heap.size) (w.heap.size + 1) g' (X3 x) w' ∧ Kept (PtC B m3 w.heap.size) w w' := by
  have h1 := h.o1
  have h2 := h.o2
  have h3 := h.o3
  have h4 := h.o4
  have hk : ∀ k, k < w.heap.size → w'.heap[k]? = w.heap[k]? := fun k hk => by
    rw [hw, Below.heap_alloc _ _ _ (by simp; omega), Below.heap_alloc _ _ _ hk]
  have sz : w'.heap.size = w.heap.size + 2 := by rw [hw]; simp
  have R : ∀ i k, (g'.sl i).v.ownBlock = some k → B ≤ k ∧ k < m3 := fun i k hk => by
    match i, hk with
    | 0, hk => have := h.h.rng k hk; omega
    | 1, hk => have := h.a.rng k hk; omega
    | 2, hk => have := h.u.rng k hk; omega
  refine ⟨⟨?_, ?_, ?_, ?_, ?_, ?_⟩, ?_⟩
  · have e : w.heap.size + 1 = (w.alloc (.cells g'.cells 26)).heap.size := by simp
    rw [hw, e]
    exact heap_alloc_new _ _
  · rintro (hp | hp) <;> omega
  · rintro k (hp | hp) <;> omega
  · intro i
    have hm : ∀ k, (g'.sl i).v.ownBlock = some k → w'.heap[k]? = w.heap[k]? := fun k e => hk k (by have := R i k e; omega)
    match i, hm with
    | 0, hm => exact own_keep (by have := h.h.own; rw [← h.h.len] at this; exact this) hm
    | 1, hm => exact own_keep (by have := h.a.own; rw [← h.a.len] at this; exact this) hm
    | 2, hm => exact own_keep (by have := h.u.own; rw [← h.u.len] at this; exact this) hm
  · intro i k e
    have := R i k e
    refine ⟨?_, by omega⟩
    rintro (hp | hp) <;> omega
  · intro i j hij k hi hj
    match i, j, hij, hi, hj with
    | 0, 0, hij, _, _ => exact hij rfl
    | 1, 1, hij, _, _ => exact hij rfl
    | 2, 2, hij, _, _ => exact hij rfl
    | 0, 1, _, hi, hj => have := h.h.rng k hi; have := h.a.rng k hj; omega
    | 0, 2, _, hi, hj => have := h.h.rng k hi; have := h.u.rng k hj; omega
    | 1, 0, _, hi, hj => have := h.a.rng k hi; have := h.h.rng k hj; omega
    | 1, 2, _, hi, hj => have := h.a.rng k hi; have := h.u.rng k hj; omega
    | 2, 0, _, hi, hj => have := h.u.rng k hi; have := h.h.rng k hj; omega
    | 2, 1, _, hi, hj => have := h.u.rng k hi; have := h.a.rng k hj; omega
  · refine ⟨by rw [hw]; rfl, by rw [hw]; rfl, by rw [hw]; rfl, by omega, ?_⟩
    rintro k (hp | hp) <;> exact hk k (by omega)

/-- The Grid's slices behind its methods. -/
theorem Cl.after {g g' g2 : GA} {x : GX} {B m1 m2 m3 q : Nat} {X : Fin 3 → List Value} {w w' : World} (h : Cl g x B m1 m2 m3 g' w) (t : Ty x) (k : Kept (PtC B m3 w.heap.size) w w') (G : Gr (PtC B m3 w.heap.size) q g2 X w')
    (hX : ∀ i, ∀ v ∈ X i, IsU v) (e1 : g2.ce = g'.ce) (e2 : g2.ch = g'.ch) (e3 : g2.co = g'.co) (e4 : g2.ss = g'.ss) :
    GR7 (fun k => k < w'.heap.size) g2 ⟨X 0, X 1, X 2, x.ce, x.ch, x.co, x.sk, x.ss⟩ w' := by
  have sz := k.size
  have up : ∀ {T : Value → Prop} {xs : List Value} {s : SV} {E n : Nat}, Ow E n xs s m3 w.heap.size w → (∀ v ∈ xs, T v) → Rs (fun k => k < w'.heap.size) T xs s.ao s.n s.c w' := fun o ht =>
    (((o.rs ht).mono (Qt := PtC B m3 w.heap.size) fun i hi => Or.inr hi).kept k).mono fun i hi => G.inn i hi
  refine ⟨own_rs (G.own 0) (hX 0), own_rs (G.own 1) (hX 1), own_rs (G.own 2) (hX 2), ?_, ?_, ?_, ?_⟩
  · rw [e1]; exact up h.ce t.ce
  · rw [e2]; exact up h.ch t.ch
  · rw [e3]; exact up h.co t.co
  · rw [e4]; exact up h.ss t.ss

/-- The flags behind one Reset. -/
def skL (rn : Nat) (xs : List Value) : List Value := if rn ≤ xs.length then xs.take rn else List.replicate rn (.bool false)
theorem skL_len (rn : Nat) (xs : List Value) : (skL rn xs).length = rn := by
  unfold skL
  split
  · rw [List.length_take]; omega
  · simp
theorem Rs.take {Pt : Nat → Prop} {T : Value → Prop} {xs : List Value} {ao : Option Addr} {n c m : Nat} {w : World} (h : Rs Pt T xs ao n c w) (hm : m ≤ n) : Rs Pt T (xs.take m) ao m c w := by
  refine ⟨by rw [List.length_take, h.len]; omega, Nat.le_trans hm h.le, h.max, fun x hx => h.ty x (List.mem_of_mem_take hx), fun e => by have := h.nil e; omega, fun h0 => ?_⟩
  obtain ⟨b, o, e, p, f⟩ := h.at_ (by omega)
  refine ⟨b, o, e, p, fun j hj => ?_⟩
  rw [f j (by omega)]
  simp [List.getD, hj]
theorem Cl.flags {g g' : GA} {x : GX} {B m1 m2 m3 rn : Nat} {s : SV} {w w1 w' : World} (h : Cl g x B m1 m2 m3 g' w) (t : Ty x) (hl : x.sk.length = g.sk.n) (k : Kept (PtC B m3 w.heap.size) w w') (hk : SkOf rn g'.sk s w1 w') (hrn : rn ≤ 65536) (hi : ∀ i, PtC B m3 w.heap.size i → i < w'.heap.size) :
    s.n = rn ∧ Rs (fun k => k < w'.heap.size) IsB (skL rn x.sk) s.ao rn s.c w' := by
  have o := h.sk
  have ex : g'.sk.c = g.sk.n := by
    rcases o.ex with ⟨e, hn⟩ | ⟨b, e⟩
    · unfold SV.v at e; injection e with _ _ e3; omega
    · unfold SV.v at e; injection e
  rcases hk with ⟨h1, rfl⟩ | ⟨h1, b, _, rfl, hb⟩
  · refine ⟨rfl, ?_⟩
    have r := (((o.rs t.sk).mono (Qt := PtC B m3 w.heap.size) fun i hi => Or.inr hi).kept k).mono (Qt := fun k => k < w'.heap.size) fun i hp => hi i hp
    have e : skL rn x.sk = x.sk.take rn := by unfold skL; rw [if_pos (by omega)]
    rw [e]
    exact r.take (by rw [o.len]; omega)
  · refine ⟨rfl, ?_⟩
    have e : skL rn x.sk = List.replicate rn (.bool false) := by unfold skL; rw [if_neg (by omega)]
    rw [e]
    refine ⟨by simp, Nat.le_refl _, Nat.le_trans hrn (by omega), fun v hv => ?_, (fun e => by cases e), fun h0 => ⟨b, 0, rfl, Lib.lt_of_heap hb, fun j hj => ?_⟩⟩
    · rw [List.mem_replicate] at hv; exact ⟨false, hv.2⟩
    · rw [Nat.zero_add, Lib.cell_of_heap hb]
      simp [List.getD, hj]

end Go.Proofs.Qxb6617129a
