/-
  Slices of slices, at this dump: args[:k], args[k:], b[k:], b[k:m]; the split command, as plain text.
-/
import Derived.Test.Qxb6616850aDoorDcd
import Derived.Test.Qxb6616850aDoorDec
import Derived.Test.Qxb6616850aDoorLine
namespace Go.Proofs.Qxb6616850aDoor
open Go.RowKit

theorem slice_from (g k b c : Nat) (hc : k + b ≤ c) (hcm : c ≤ 9223372036854775807) :
    ∃ o c', (∀ W : World, (Instr.slice 23 (.slice (some ⟨g, 0, none⟩) (k + b) c) (some (.int .i64 (k : Int))) none none).run Tryd.prog W = .ok (.slice (some ⟨g, o, none⟩) b c') W) ∧ (b ≠ 0 → o = k) := by
  by_cases h : c = k
  · refine ⟨0, 0, fun W => ?_, fun hb => by omega⟩
    obtain rfl : b = 0 := by omega
    subst h
    have h0 : (0 : Int) ≤ c := by omega
    go_simp
  · refine ⟨k, c - k, fun W => ?_, fun _ => rfl⟩
    have h0 : (0 : Int) ≤ k := by omega
    have h1 : (k : Int) ≤ k + b := by omega
    go_simp

theorem slice_mid (g k b n c : Nat) (hn : k + b ≤ n) (hc : n ≤ c) (hcm : c ≤ 9223372036854775807) :
    ∃ o c', (∀ W : World, (Instr.slice 23 (.slice (some ⟨g, 0, none⟩) n c) (some (.int .i64 (k : Int))) (some (.int .i64 ((k : Int) + b))) none).run Tryd.prog W = .ok (.slice (some ⟨g, o, none⟩) b c') W) ∧ (b ≠ 0 → o = k) := by
  by_cases h : c = k
  · refine ⟨0, 0, fun W => ?_, fun hb => by omega⟩
    obtain rfl : b = 0 := by omega
    subst h
    have h0 : (0 : Int) ≤ c := by omega
    go_simp
  · refine ⟨k, c - k, fun W => ?_, fun _ => rfl⟩
    have h0 : (0 : Int) ≤ k := by omega
    have h1 : (k : Int) ≤ k + b := by omega
    have h2 : (k : Int) + b ≤ c := by omega
    go_simp
    omega

theorem args_lo {Pt : Nat → Prop} {L : List ByteArray} {ao : Option Addr} {n c : Nat} {w : World} (h : Args Pt L ao n c w) (k : Nat) (hk : k ≤ n) :
    (∀ W : World, (Instr.slice 42 (.slice ao n c) none (some (.int .i64 (k : Int))) none).run Tryd.prog W = .ok (.slice ao k c) W) ∧ Args Pt (L.take k) ao k c w := by
  have hl := h.le
  have hm := h.max
  have hlen := h.len
  refine ⟨fun W => ?_, by rw [List.length_take]; omega, by omega, hm, fun h0 => ?_⟩
  · have h0 : (0 : Int) ≤ k := by omega
    have h1 : (k : Int) ≤ c := by omega
    clear h
    cases ao
    · go_simp
    · go_simp
  · obtain ⟨g, o, e, p, q⟩ := h.at_ (by omega)
    refine ⟨g, o, e, p, fun j hj => ?_⟩
    have e2 : (L.take k).getD j ByteArray.empty = L.getD j ByteArray.empty := by simp [List.getD, hj]
    rw [e2]
    exact q j (by omega)

theorem args_hi {Pt : Nat → Prop} {L : List ByteArray} {ao : Option Addr} {n c : Nat} {w : World} (h : Args Pt L ao n c w) (k : Nat) (hk : k ≤ n) :
    ∃ ao2, (∀ W : World, (Instr.slice 42 (.slice ao n c) (some (.int .i64 (k : Int))) none none).run Tryd.prog W = .ok (.slice ao2 (n - k) (c - k)) W) ∧ Args Pt (L.drop k) ao2 (n - k) (c - k) w := by
  have hl := h.le
  have hm := h.max
  have hlen := h.len
  have c9 : Tryd.prog.cellsOf 9 = 1 := by kernel_rfl
  refine ⟨if c = k then ao else ao.map (·.add k), fun W => ?_, by rw [List.length_drop]; omega, by omega, by omega, fun h0 => ?_⟩
  · have h0 : (0 : Int) ≤ k := by omega
    have h1 : (k : Int) ≤ n := by omega
    clear h
    cases ao
    · go_simp
    · go_simp
  · obtain ⟨g, o, rfl, p, q⟩ := h.at_ (by omega)
    refine ⟨g, o + k, by rw [if_neg (by omega)]; simp [Addr.add], p, fun j hj => ?_⟩
    have e2 : (L.drop k).getD j ByteArray.empty = L.getD (k + j) ByteArray.empty := by simp [List.getD, List.getElem?_drop]
    rw [e2, Nat.add_assoc]
    exact q (k + j) (by omega)

/-- The arguments on the wire. -/
def body (L : List ByteArray) : List UInt8 := (L.map bulk).flatten
theorem cmd_body (L : List ByteArray) : cmd L = hline 42 (L.length : Int) ++ body L := by
  unfold cmd bulksTo body
  rw [List.take_of_length_le (Nat.le_refl _)]
theorem body_cut (L : List ByteArray) (k : Nat) : body L = body (L.take k) ++ body (L.drop k) := by
  unfold body
  rw [← List.flatten_append, ← List.map_append, List.take_append_drop]

theorem isLine2 (g o c m z : Nat) (w : World) (hr : Rd (hline 42 (m : Int)) g o w) (hz : (hline 42 (m : Int)).length = z) (hm : m ≤ 1048576) (hc : z ≤ c) (hcm : c ≤ 9223372036854775807) :
    Calls Tryd.prog 22 #[.slice (some ⟨g, o, none⟩) z c, .int .u8 42, .int .i64 m] w fun e w' => e = .returned (.bool true) ∧ w' = w := by
  have hz' : z = Lib.nDigits m + 3 := by rw [← hz, hline_length, nat_itoa_len]
  subst hz'
  exact isLine g o c m _ w hr rfl (nd9 m hm) hm hc hcm

theorem decimal2 (s nd : Nat) (hnd : Lib.nDigits s = nd) (hs : s ≤ 1048576) (w : World) :
    Calls Tryd.prog 26 #[.int .i64 s] w fun e w' => ∃ g cap, e = .returned (.slice (some ⟨g, 0, none⟩) nd cap) ∧ Below w.heap.size w w' := by
  refine (decimal s (by omega) (by omega) w).mono ?_
  rintro e w' ⟨g, cap, rfl, h1, h2, h3, h4, h5, h6⟩
  rw [nat_itoa_len, hnd]
  exact ⟨g, cap, rfl, h6⟩

theorem rd_next {l : List UInt8} {g : Nat} {w1 w2 : World} (h : Rd l g 0 w1) (hg : g < w1.heap.size) (hb : Below w1.heap.size w1 w2) : Rd l g 0 w2 ∧ g < w2.heap.size :=
  ⟨h.kept (hb.block g hg), Nat.lt_of_lt_of_le hg hb.size⟩

end Go.Proofs.Qxb6616850aDoor
