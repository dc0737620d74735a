/-
  zzLoadFits, at this dump.
-/
import Derived.Test.Qxb6617129aEmp
namespace Go.Proofs.Qxb6617129a
open Go.RowKit

/-- What zzLoadFits leaves through. -/
structure LF (g : GA) : Prop where
  r : g.r ≤ 32768
  c0 : 0 ≤ g.c
  c1 : g.c ≤ 32768
  ld : 0 ≤ g.ld
  wd : g.wd = g.a.n
  u : g.a.n ≤ g.u.n
  rows : g.ld < g.r → 0 < g.wd → g.r ≤ (g.h.n : Int) / g.wd ∧ ((g.r - 1) * g.c + 64 * (g.wd - 1)) / 64 < g.ce.n

theorem lf_rows {r c : Int} {a hn cen : Nat} (r0 : 1 ≤ r) (r1 : r ≤ 32768) (c0 : 0 ≤ c) (c1 : c ≤ 32768) (a0 : 0 < a) (a1 : a ≤ 131072) (hh : hn ≤ 131072) (h1 : r ≤ wrap64 ((hn : Int) / (a : Int)))
    (h2 : wrap64 ((wrap64 (wrap64 ((r - 1) * c) + 64 * ((a : Int) - 1))).tdiv 64) < cen) : r ≤ (hn : Int) / (a : Int) ∧ ((r - 1) * c + 64 * ((a : Int) - 1)) / 64 < cen := by
  have q0 : 0 ≤ (hn : Int) / (a : Int) := Int.ediv_nonneg (by omega) (by omega)
  have q1 : (hn : Int) / (a : Int) ≤ hn := Int.ediv_le_self _ (by omega)
  have p0 : 0 ≤ (r - 1) * c := Int.mul_nonneg (by omega) c0
  have p1 : (r - 1) * c ≤ 32768 * 32768 := Int.mul_le_mul (by omega) c1 c0 (by omega)
  generalize (hn : Int) / (a : Int) = q at h1 q0 q1 ⊢
  generalize (r - 1) * c = p at h2 p0 p1 ⊢
  have e1 : wrap64 p = p := by unfold wrap64; omega
  have e2 : wrap64 (p + 64 * ((a : Int) - 1)) = p + 64 * ((a : Int) - 1) := by unfold wrap64; omega
  rw [e1, e2, Int.tdiv_eq_ediv_of_nonneg (by omega)] at h2
  unfold wrap64 at h1 h2
  omega

set_option maxHeartbeats 800000 in
set_option maxRecDepth 100000 in
theorem loadFits (g : GA) (w : World) (hs : Small g) : Calls Try.prog 21 #[g.val] w fun e w' => Ans true (LF g) e ∧ Below w.heap.size w w' := by
  unfold GA.val GA.cells
  unfold Small at hs
  have hb := fun o => (Below.refl w.heap.size w).alloc (Nat.le_refl _) o
  have Hb := Lib.hid hb
  clear hb
  by_cases h1 : 32768 < g.r
  · go_enter Try.func21, Try.ntmps21
    go_wp2
    go_ret
    exact ⟨Ans.other (by decide), Hb.out _⟩
  by_cases h2 : g.c < 0
  · go_enter Try.func21, Try.ntmps21
    go_wp2
    go_ret
    exact ⟨Ans.other (by decide), Hb.out _⟩
  by_cases h3 : 32768 < g.c
  · go_enter Try.func21, Try.ntmps21
    go_wp2
    go_ret
    exact ⟨Ans.other (by decide), Hb.out _⟩
  by_cases h4 : g.ld < 0
  · go_enter Try.func21, Try.ntmps21
    go_wp2
    go_ret
    exact ⟨Ans.other (by decide), Hb.out _⟩
  by_cases h5 : g.wd = g.a.n
  case neg =>
    have h5' : (g.wd == (g.a.n : Int)) = false := by simpa using h5
    go_enter Try.func21, Try.ntmps21
    go_wp2
    go_ret
    exact ⟨Ans.other (by decide), Hb.out _⟩
  have h5' : (g.wd == (g.a.n : Int)) = true := by simpa using h5
  by_cases h6 : (g.u.n : Int) < g.a.n
  · have H5 := Lib.hid h5
    clear h5
    go_enter Try.func21, Try.ntmps21
    go_wp2
    go_ret
    exact ⟨Ans.other (by decide), Hb.out _⟩
  have H5 := Lib.hid h5
  clear h5
  by_cases h7 : g.ld < g.r
  case neg =>
    go_enter Try.func21, Try.ntmps21
    go_wp2
    go_ret
    exact ⟨Ans.of ⟨by omega, by omega, by omega, by omega, H5.out, by omega, fun h => absurd h (by omega)⟩, Hb.out _⟩
  by_cases h8 : 0 < g.wd
  case neg =>
    go_enter Try.func21, Try.ntmps21
    go_wp2
    go_ret
    exact ⟨Ans.of ⟨by omega, by omega, by omega, by omega, H5.out, by omega, fun _ h => absurd h (by omega)⟩, Hb.out _⟩
  have w0 : (g.wd == 0) = false := by simp; omega
  go_enter Try.func21, Try.ntmps21
  go_wp2
  go_quiet (fail)
  go_wp2
  all_goals go_ret
  all_goals refine ⟨?_, (Hb.out _).trans ⟨rfl, rfl, rfl, Nat.le_refl _, fun _ _ => rfl⟩⟩
  all_goals first
    | exact Ans.other (by decide)
    | exact Ans.of ⟨by omega, by omega, by omega, by omega, H5.out, by omega, fun _ _ => by rw [H5.out]; exact lf_rows (by omega) (by omega) (by omega) (by omega) (by omega) (by omega) (by omega) (by assumption) (by assumption)⟩

end Go.Proofs.Qxb6617129a
