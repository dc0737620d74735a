/-
  A GridFields by value: 'GA'; zzGridTooBig and the laws' bounds on lengths, at this dump.
-/
import Derived.Test.Qxb6617129aSml
namespace Go.Proofs.Qxb6617129a
open Go.RowKit

/-- A slice value's parts. -/
structure SV where
  ao : Option Addr
  n : Nat
  c : Nat
/-- A GridFields' parts. -/
structure GA where
  r : Int
  c : Int
  wd : Int
  h : SV
  a : SV
  u : SV
  ce : SV
  ld : Int
  ch : SV
  co : SV
  sk : SV
  ss : SV
def GA.cells (g : GA) : Array Value := #[.int .i64 g.r, .int .i64 g.c, .int .i64 g.wd, .slice g.h.ao g.h.n g.h.c, .slice g.a.ao g.a.n g.a.c, .slice g.u.ao g.u.n g.u.c, .slice g.ce.ao g.ce.n g.ce.c, .int .i64 g.ld, .slice g.ch.ao g.ch.n g.ch.c, .slice g.co.ao g.co.n g.co.c, .slice g.sk.ao g.sk.n g.sk.c, .slice g.ss.ao g.ss.n g.ss.c]
def GA.val (g : GA) : Value := .agg g.cells

/-- What zzGridTooBig leaves through. -/
def Small (g : GA) : Prop := g.h.n ≤ 131072 ∧ g.a.n ≤ 131072 ∧ g.u.n ≤ 131072 ∧ g.ce.n ≤ 131072 ∧ g.ch.n ≤ 131072 ∧ g.co.n ≤ 131072 ∧ g.sk.n ≤ 1048576 ∧ g.ss.n ≤ 131072

set_option maxHeartbeats 6400000 in
set_option maxRecDepth 100000 in
theorem bytes6 (g : GA) (x y z u : Int) (w : World) : Calls Try.prog 6 #[g.val, .int .i64 x, .int .i64 y, .int .i64 z, .int .i64 u] w fun e w' => Ans true True e ∧ Below w.heap.size w w' := by
  unfold GA.val GA.cells
  have hb := fun o => (Below.refl w.heap.size w).alloc (Nat.le_refl _) o
  have Hb := Lib.hid hb
  clear hb
  go_enter Try.func6, Try.ntmps6
  go_wp2
  all_goals go_ret
  all_goals exact ⟨Ans.of trivial, Hb.out _⟩

set_option maxHeartbeats 6400000 in
set_option maxRecDepth 100000 in
theorem bytes16 (g : GA) (x y : Int) (w : World) : Calls Try.prog 16 #[g.val, .int .i64 x, .int .i64 y] w fun e w' => Ans true True e ∧ Below w.heap.size w w' := by
  unfold GA.val GA.cells
  have hb := fun o => (Below.refl w.heap.size w).alloc (Nat.le_refl _) o
  have Hb := Lib.hid hb
  clear hb
  go_enter Try.func16, Try.ntmps16
  go_wp2
  all_goals go_ret
  all_goals exact ⟨Ans.of trivial, Hb.out _⟩

set_option maxHeartbeats 6400000 in
set_option maxRecDepth 100000 in
theorem bytes20 (g : GA) (x : Int) (w : World) : Calls Try.prog 20 #[g.val, .int .i64 x] w fun e w' => Ans true True e ∧ Below w.heap.size w w' := by
  unfold GA.val GA.cells
  have hb := fun o => (Below.refl w.heap.size w).alloc (Nat.le_refl _) o
  have Hb := Lib.hid hb
  clear hb
  go_enter Try.func20, Try.ntmps20
  go_wp2
  all_goals go_ret
  all_goals exact ⟨Ans.of trivial, Hb.out _⟩

set_option maxHeartbeats 6400000 in
set_option maxRecDepth 100000 in
theorem tooBig (g : GA) (w : World) : Calls Try.prog 7 #[g.val] w fun e w' => Ans false (Small g) e ∧ Below w.heap.size w w' := by
  unfold GA.val GA.cells
  have hb := fun o => (Below.refl w.heap.size w).alloc (Nat.le_refl _) o
  have Hb := Lib.hid hb
  clear hb
  go_enter Try.func7, Try.ntmps7
  go_wp2
  all_goals go_ret
  all_goals first | exact ⟨Ans.other (by decide), Hb.out _⟩ | exact ⟨Ans.of (by unfold Small; omega), Hb.out _⟩

end Go.Proofs.Qxb6617129a
