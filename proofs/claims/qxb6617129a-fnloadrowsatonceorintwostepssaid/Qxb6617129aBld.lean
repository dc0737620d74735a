/-
  zzBuild, ZZFields, at this dump.
-/
import Derived.Test.Qxb6617129aRst
namespace Go.Proofs.Qxb6617129a
open Go.RowKit

set_option maxHeartbeats 1600000 in
set_option maxRecDepth 100000 in
theorem build (g : GA) (w : World) : Calls Try.prog 9 #[g.val] w fun e w' => e = .returned (.pointer (some ⟨w.heap.size + 1, 0, none⟩)) ∧ w' = (w.alloc (.cells g.cells 26)).alloc (.cells g.cells 52) := by
  unfold GA.val GA.cells
  go_enter Try.func9, Try.ntmps9
  go_wp2
  go_ret
  exact ⟨rfl, rfl⟩

set_option maxHeartbeats 1600000 in
set_option maxRecDepth 100000 in
theorem fields (g : GA) (q : Nat) (w : World) (h : w.heap[q]? = some (.cells g.cells 52 (0, 0))) :
    Calls Try.prog 30 #[.pointer (some ⟨q, 0, none⟩)] w fun e w' => e = .returned (.tuple g.cells) ∧ Hush w w' := by
  have hc : ∀ j, w.cell? ⟨q, j, none⟩ = g.cells[j]? := Lib.cell_of_heap h
  unfold GA.cells at hc ⊢
  have c0 := hc 0
  have c1 := hc 1
  have c2 := hc 2
  have c3 := hc 3
  have c4 := hc 4
  have c5 := hc 5
  have c6 := hc 6
  have c7 := hc 7
  have c8 := hc 8
  have c9 := hc 9
  have c10 := hc 10
  have c11 := hc 11
  simp only [List.getElem?_toArray, List.getElem?_cons_zero, List.getElem?_cons_succ] at c0 c1 c2 c3 c4 c5 c6 c7 c8 c9 c10 c11
  clear hc h
  go_enter Try.func30, Try.ntmps30
  go_wp2
  go_quiet (fail)
  go_wp2
  refine bodyPost_ret (v := .tuple #[.int .i64 g.r, .int .i64 g.c, .int .i64 g.wd, .slice g.h.ao g.h.n g.h.c, .slice g.a.ao g.a.n g.a.c, .slice g.u.ao g.u.n g.u.c, .slice g.ce.ao g.ce.n g.ce.c, .int .i64 g.ld, .slice g.ch.ao g.ch.n g.ch.c, .slice g.co.ao g.co.n g.co.c, .slice g.sk.ao g.sk.n g.sk.c, .slice g.ss.ao g.ss.n g.ss.c]) (by simp [results, Try.results30, go_sem]) rfl ?_
  exact ⟨rfl, (Hush.refl w).drewN _⟩

end Go.Proofs.Qxb6617129a
