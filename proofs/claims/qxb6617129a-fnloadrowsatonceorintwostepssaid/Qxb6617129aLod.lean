/-
  FnLoadRowsAtOnceOrInTwoSteps, at this dump: the cases joined.
-/
import Derived.Test.Qxb6617129aL5One
import Derived.Test.Qxb6617129aL5Two
import Derived.Test.Qxb6617129aL5Tre
import Derived.Test.Qxb6617129aL5Sht
namespace Go.Proofs.Qxb6617129a
open Go.RowKit

theorem law5 (g : GA) (x : GX) (k : Int) (w : World) (h : GRd (fun k => k < w.heap.size) g x w) :
    Calls Try.prog 5 #[g.val, .int .i64 k] w fun e w' => e = .returned (.bool true) ∧ Below w.heap.size w w' := by
  by_cases hS : Small g → LF g → k < g.ld ∨ (g.r < k ∧ k ≠ g.ld)
  · exact law5Sht g k w hS
  · have Sm : Small g := by
      by_cases F : Small g
      · exact F
      · exact absurd (fun f => absurd f F) hS
    have F : LF g := by
      by_cases F : LF g
      · exact F
      · exact absurd (fun _ f => absurd f F) hS
    have hk1 : ¬ k < g.ld := fun h1 => hS fun _ _ => Or.inl h1
    have hk2 : ¬ (g.r < k ∧ k ≠ g.ld) := fun h1 => hS fun _ _ => Or.inr h1
    have hs : g.a.n ≤ 131072 := Sm.2.1
    clear Sm
    clear hS
    obtain ⟨f1, f2, f3, f4, f5, f6, f7⟩ := F
    obtain ⟨gr, gc, gwd, sh, ⟨oa, an, ca⟩, su, sce, gld, sch, sco, ssk, sss⟩ := g
    dsimp only at f1 f2 f3 f4 f5 f6 f7 hk1 hk2 hs
    obtain ⟨cn, rfl⟩ : ∃ cn : Nat, gc = cn := ⟨gc.toNat, by omega⟩
    obtain ⟨l, rfl⟩ : ∃ l : Nat, gld = l := ⟨gld.toNat, by omega⟩
    obtain ⟨kn, rfl⟩ : ∃ kn : Nat, k = kn := ⟨k.toNat, by omega⟩
    subst f5
    by_cases hl : (l : Int) < gr
    · obtain ⟨rn, rfl⟩ : ∃ rn : Nat, gr = rn := ⟨gr.toNat, by omega⟩
      exact law5One _ x sh su sce sch sco ssk sss oa ca rn cn an l kn w rfl h (ld_of (by omega) (by omega) hs f6 (by omega) (fun h0 => f7 hl (by omega))) (by omega) (by omega) (by omega)
    · have ek : kn = l := by omega
      subst ek
      have L : Ld kn kn cn an sh.n su.n sce.n := ⟨Nat.le_refl _, fun h0 => absurd h0 (Nat.lt_irrefl _), by omega, hs, f6, fun r a b => by omega, fun r i a b _ => by omega⟩
      by_cases hr : gr < (kn : Int)
      · exact law5Two _ x sh su sce sch sco ssk sss oa gr ca cn an kn w rfl h L hr
      · obtain rfl : gr = (kn : Int) := by omega
        exact law5Tre _ x sh su sce sch sco ssk sss oa ca cn an kn w rfl h L

end Go.Proofs.Qxb6617129a
