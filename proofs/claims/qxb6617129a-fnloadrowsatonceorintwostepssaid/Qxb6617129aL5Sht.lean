/-
  FnLoadRowsAtOnceOrInTwoSteps, at this dump: what it leaves at once.
-/
import Derived.Test.Qxb6617129aLdn
namespace Go.Proofs.Qxb6617129a
open Go.RowKit

set_option maxHeartbeats 1600000 in
set_option maxRecDepth 100000 in
theorem law5Sht (g : GA) (k : Int) (w : World) (hn : Small g → LF g → k < g.ld ∨ (g.r < k ∧ k ≠ g.ld)) :
    Calls Try.prog 5 #[g.val, .int .i64 k] w fun e w' => e = .returned (.bool true) ∧ Below w.heap.size w w' := by
  obtain ⟨B, hB⟩ : ∃ B, B = w.heap.size := ⟨_, rfl⟩
  rw [← hB]
  obtain ⟨W1, hW1⟩ : ∃ W1, W1 = w.alloc (.cells g.cells 26) := ⟨_, rfl⟩
  have bW : Below B w W1 := by rw [hW1, hB]; exact (Below.refl _ w).alloc (Nat.le_refl _) _
  have hz1 : B + 1 ≤ W1.heap.size := by rw [hW1, hB]; simp
  have S1 : Box B g W1 := by
    show W1.heap[B]? = _
    rw [hW1, hB]
    exact heap_alloc_new w _
  have HB := Lib.hid hB
  have HW1 := Lib.hid hW1
  have Hn := Lib.hid hn
  clear hB hW1 hn
  have C20 := Lib.hid (fun W => bytes20 g k W)
  have C7 := Lib.hid (fun W => tooBig g W)
  have C21 := Lib.hid (fun W hs => loadFits g W hs)
  have T := Lib.hid (fun w' (hb : Box B g w') => hb.twelve)
  unfold GA.val at C20 C7 C21 ⊢
  unfold GA.cells at HW1 C20 C7 C21 ⊢
  go_enter Try.func5, Try.ntmps5
  go_wp2_with (go_at_call 20; rw [← HW1.out, ← HB.out]; refine (C20.out _).mono ?_; rintro e w2 ⟨⟨b1, rfl, _⟩, bl2⟩; refine Hid.out ?_)
  refine Lib.hid ?_
  have b2 : Below (B + 1) W1 w2 := bl2.mono hz1
  clear bl2 HW1 C20
  cases b1
  · go_wp2
    go_ret
    exact ⟨rfl, bW.trans (b2.mono (by omega))⟩
  obtain ⟨t0, t1, t2, t3, t4, t5, t6, t7, t8, t9, t10, t11⟩ := T.out w2 (S1.alive b2 (by omega))
  go_wp2_with (go_at_call 7; refine (C7.out _).mono ?_; rintro e w3 ⟨⟨b1, rfl, hsm⟩, bl3⟩; refine Hid.out ?_)
  refine Lib.hid ?_
  clear t0 t1 t2 t3 t4 t5 t6 t7 t8 t9 t10 t11
  have b3 : Below (B + 1) W1 w3 := below_up b2 bl3 (Nat.le_trans hz1 b2.size)
  clear bl3 b2 C7
  cases b1
  case true =>
    go_wp2
    go_ret
    exact ⟨rfl, bW.trans (b3.mono (by omega))⟩
  have hsL := Lib.hid (hsm rfl)
  clear hsm
  obtain ⟨t0, t1, t2, t3, t4, t5, t6, t7, t8, t9, t10, t11⟩ := T.out w3 (S1.alive b3 (by omega))
  have C21b := Lib.hid (fun W => C21.out W hsL.out)
  go_wp2_with (go_at_call 21; refine (C21b.out _).mono ?_; rintro e w4 ⟨⟨b1, rfl, hlf⟩, bl4⟩; refine Hid.out ?_)
  refine Lib.hid ?_
  clear t0 t1 t2 t3 t4 t5 t6 t7 t8 t9 t10 t11
  have b4 : Below (B + 1) W1 w4 := below_up b3 bl4 (Nat.le_trans hz1 b3.size)
  clear bl4 b3 C21 C21b
  cases b1
  · go_wp2
    go_ret
    exact ⟨rfl, bW.trans (b4.mono (by omega))⟩
  obtain ⟨t0, t1, t2, t3, t4, t5, t6, t7, t8, t9, t10, t11⟩ := T.out w4 (S1.alive b4 (by omega))
  have hd := Hn.out hsL.out (hlf rfl)
  clear hlf
  by_cases h1 : k < g.ld
  · clear hd
    go_wp2
    go_ret
    exact ⟨rfl, bW.trans (b4.mono (by omega))⟩
  · have h2 : g.r < k := by omega
    have h3 : (k == g.ld) = false := by simp; omega
    clear hd
    go_wp2
    go_ret
    exact ⟨rfl, bW.trans (b4.mono (by omega))⟩

end Go.Proofs.Qxb6617129a
