/-
  Small laws for law 5's chains. No walk.
-/
import Derived.Test.Qxb6617129aLdm
import Derived.Test.Qxb6617129aFgt
namespace Go.Proofs.Qxb6617129a
open Go.RowKit

theorem X3_isU {x : GX} (t : Ty x) : ∀ i, ∀ v ∈ X3 x i, IsU v := fun i => by
  match i with
  | 0 => exact t.h
  | 1 => exact t.a
  | 2 => exact t.u
def GA.setr (g : GA) (z : Int) : GA := { g with r := z }
theorem Cl.below {g g' : GA} {x : GX} {B m1 m2 m3 : Nat} {w w' : World} (h : Cl g x B m1 m2 m3 g' w) (b : Below w.heap.size w w') : Cl g x B m1 m2 m3 g' w' := by
  have o1 := h.o1
  have o2 := h.o2
  have o3 := h.o3
  have o4 := h.o4
  have sz := b.size
  have up : ∀ {E n : Nat} {xs : List Value} {s : SV}, Ow E n xs s m3 w.heap.size w → Ow E n xs s m3 w'.heap.size w' := fun o => (o.below b (Nat.le_refl _)).wide (Nat.le_refl _) sz
  exact ⟨h.r, h.c, h.wd, h.ld, h.o1, h.o2, h.o3, by omega, h.h.below b (by omega), h.a.below b (by omega), h.u.below b (by omega), up h.ce, up h.ch, up h.co, up h.sk, up h.ss⟩
theorem Cl.setr {g g' : GA} {x : GX} {B m1 m2 m3 : Nat} {w : World} (h : Cl g x B m1 m2 m3 g' w) (z : Int) : Cl (g.setr z) x B m1 m2 m3 (g'.setr z) w :=
  ⟨rfl, h.c, h.wd, h.ld, h.o1, h.o2, h.o3, h.o4, h.h, h.a, h.u, h.ce, h.ch, h.co, h.sk, h.ss⟩

/-- loadRows on a clone that was built. -/
theorem Cl.load {g g' : GA} {x : GX} {B p1 p2 p3 q : Nat} {w0 w : World} (h : Cl g x B p1 p2 p3 g' w0) (t : Ty x) (k : Kept (PtC B p3 w0.heap.size) w0 w) (G : Gr (PtC B p3 w0.heap.size) q g' (X3 x) w) (l lm cn wn m : Nat)
    (hld : g.ld = l) (hcc : g.c = cn) (hww : g.wd = wn) (han : g.a.n = wn) (hr : g.r = lm ∨ (g.r ≤ l ∧ lm = l)) (L : Ld l lm cn wn g.h.n g.u.n g.ce.n) (hm : lm = l + m) :
    Calls Try.prog 24 #[.pointer (some ⟨q, 0, none⟩)] w fun e w' => e = .returned (.tuple #[]) ∧ Kept (PtC B p3 w0.heap.size) w w' ∧ Gr (PtC B p3 w0.heap.size) q (gl g' lm) (XS (X3 x) (rowsF x.ce x.a cn wn l m (x.h, x.u))) w' :=
  load24 _ q g' (X3 x) x.ce l lm cn wn m w G (h.cells t k) (h.ld.trans hld) (h.c.trans hcc) (h.wd.trans hww) (h.a.len.trans han) (X3_isU t) (by rw [h.r]; exact hr) (by rw [h.h.len, h.u.len, h.ce.len]; exact L) hm

/-- .. and once more, over rows that are loaded in part. -/
theorem Cl.loadOn {g g' g2 : GA} {x : GX} {B p1 p2 p3 q nh nu : Nat} {S : List Value × List Value} {w0 w : World} (h : Cl g x B p1 p2 p3 g' w0) (t : Ty x) (k : Kept (PtC B p3 w0.heap.size) w0 w) (G : Gr (PtC B p3 w0.heap.size) q g2 (XS (X3 x) S) w) (l lm cn wn m : Nat)
    (hce : g2.ce = g'.ce) (hn1 : g2.h.n = g.h.n) (hn2 : g2.u.n = g.u.n) (hld : g2.ld = l) (hcc : g2.c = cn) (hww : g2.wd = wn) (han : g2.a.n = wn) (hr : g2.r = lm ∨ (g2.r ≤ l ∧ lm = l)) (L : Ld l lm cn wn g.h.n g.u.n g.ce.n) (ok : StOk nh nu S) (hm : lm = l + m) :
    Calls Try.prog 24 #[.pointer (some ⟨q, 0, none⟩)] w fun e w' => e = .returned (.tuple #[]) ∧ Kept (PtC B p3 w0.heap.size) w w' ∧ Gr (PtC B p3 w0.heap.size) q (gl g2 lm) (XS (X3 x) (rowsF x.ce x.a cn wn l m S)) w' := by
  have e : ∀ S', XS (XS (X3 x) S) S' = XS (X3 x) S' := fun S' => by
    funext i
    match i with
    | 0 => simp [XS, putX]
    | 1 => simp [XS, putX]
    | 2 => simp [XS, putX]
  refine (load24 _ q g2 (XS (X3 x) S) x.ce l lm cn wn m w G (by rw [hce]; exact h.cells t k) hld hcc hww han (XS_isU ok t.a) hr (by rw [hn1, hn2, hce, h.ce.len]; exact L) hm).mono ?_
  rintro e' w' ⟨h1, h2, h3⟩
  rw [e, XS_0, XS_1, XS_2] at h3
  exact ⟨h1, h2, h3⟩

/-- The pairs that zzRestSame reads. -/
theorem rsm_of {g1 g2 : GA} {x1 x2 : GX} {N1 N2 : Nat} {w : World} (h1 : GRd (fun k => k < N1) g1 x1 w) (h2 : GRd (fun k => k < N2) g2 x2 w) (z1 : N1 ≤ w.heap.size) (z2 : N2 ≤ w.heap.size) (r : g1.r = g2.r) (c : g1.c = g2.c) (wd : g1.wd = g2.wd)
    (a : x1.a = x2.a) (ce : x1.ce = x2.ce) (co : x1.co = x2.co) (ch : x1.ch = x2.ch) (sk : x1.sk = x2.sk) (ss : x1.ss = x2.ss) : RSm g1 g2 w := by
  have k1 := h1.mono (Qt := fun k => k < w.heap.size) fun i hi => Nat.lt_of_lt_of_le hi z1
  have k2 := h2.mono (Qt := fun k => k < w.heap.size) fun i hi => Nat.lt_of_lt_of_le hi z2
  exact ⟨r, c, wd, ⟨_, k1.a, by rw [a]; exact k2.a⟩, ⟨_, k1.ce, by rw [ce]; exact k2.ce⟩, ⟨_, k1.co, by rw [co]; exact k2.co⟩, ⟨_, k1.ch, by rw [ch]; exact k2.ch⟩, ⟨_, k1.sk, by rw [sk]; exact k2.sk⟩, ⟨_, k1.ss, by rw [ss]; exact k2.ss⟩⟩

end Go.Proofs.Qxb6617129a
