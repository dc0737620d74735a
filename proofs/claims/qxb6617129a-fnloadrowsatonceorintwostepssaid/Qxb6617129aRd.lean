/-
  zzRead, at this dump.
-/
import Derived.Test.Qxb6617129aBld
namespace Go.Proofs.Qxb6617129a
open Go.RowKit

set_option maxHeartbeats 800000 in
set_option maxRecDepth 100000 in
theorem read (g : GA) (q : Nat) (w : World) (h : w.heap[q]? = some (.cells g.cells 52 (0, 0))) :
    Calls Try.prog 12 #[.pointer (some ⟨q, 0, none⟩)] w fun e w' => e = .returned g.val ∧ Below w.heap.size w w' := by
  have hq := Lib.lt_of_heap h
  have hF := fun (W : World) (hW : W.heap[q]? = w.heap[q]?) => fields g q W (hW.trans h)
  unfold GA.val
  unfold GA.cells at hF ⊢
  go_enter Try.func12, Try.ntmps12
  go_wp2_with (go_at_call 30; refine (hF _ (by exact Below.heap_alloc _ _ _ hq)).mono ?_; rintro e w2 ⟨rfl, q2⟩; refine Hid.out ?_)
  refine Lib.hid ?_
  obtain ⟨nn, rfl⟩ := q2
  obtain ⟨W0, hW0⟩ : ∃ W0, W0 = w.drewN nn := ⟨_, rfl⟩
  have e1 : ∀ o, (w.alloc o).drewN nn = W0.alloc o := fun o => by rw [hW0]; rfl
  have e2 : w.heap.size = W0.heap.size := by rw [hW0]; rfl
  have HB : Hid (∀ o : Obj, Below w.heap.size w (W0.alloc o)) := by
    intro o
    have hb : Below w.heap.size w W0 := by rw [hW0]; exact ((Hush.refl w).drewN nn).below _
    exact hb.alloc hb.size o
  rw [e1, e2]
  clear e1 e2 hW0 hF h hq
  go_wp2
  refine bodyPost_ret (v := .agg #[.int .i64 g.r, .int .i64 g.c, .int .i64 g.wd, .slice g.h.ao g.h.n g.h.c, .slice g.a.ao g.a.n g.a.c, .slice g.u.ao g.u.n g.u.c, .slice g.ce.ao g.ce.n g.ce.c, .int .i64 g.ld, .slice g.ch.ao g.ch.n g.ch.c, .slice g.co.ao g.co.n g.co.c, .slice g.sk.ao g.sk.n g.sk.c, .slice g.ss.ao g.ss.n g.ss.c]) (by simp [results, Try.results12, go_sem]) rfl ?_
  exact ⟨rfl, HB.out _⟩

end Go.Proofs.Qxb6617129a
