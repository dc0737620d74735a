/-
  resp.Writer's Command, at this dump; zzOutCommand, zzOutArray.
-/
import Derived.Test.Qxb6616850aDoorCat
import Derived.Test.Qxb6616850aDoorHead
namespace Go.Proofs.Qxb6616850aDoor
open Go.RowKit

/-- A slice of strings that reads as L; where it holds something it lies in a protected block. -/
structure Args (Pt : Nat → Prop) (L : List ByteArray) (ao : Option Addr) (n c : Nat) (w : World) : Prop where
  len : L.length = n
  le : n ≤ c
  max : c ≤ 9223372036854775807
  at_ : 0 < n → ∃ g o, ao = some ⟨g, o, none⟩ ∧ Pt g ∧ ∀ j, j < n → w.cell? ⟨g, o + j, none⟩ = some (.string (L.getD j ByteArray.empty))

theorem Args.kept {Pt : Nat → Prop} {L : List ByteArray} {ao : Option Addr} {n c : Nat} {w w' : World} (h : Args Pt L ao n c w) (k : Kept Pt w w') : Args Pt L ao n c w' :=
  ⟨h.len, h.le, h.max, fun hn => by
    obtain ⟨g, o, e, p, q⟩ := h.at_ hn
    exact ⟨g, o, e, p, fun j hj => (k.cell (p := ⟨g, o + j, none⟩) p).trans (q j hj)⟩⟩
theorem Args.mono {Pt Qt : Nat → Prop} {L : List ByteArray} {ao : Option Addr} {n c : Nat} {w : World} (h : Args Pt L ao n c w) (k : ∀ i, Pt i → Qt i) : Args Qt L ao n c w :=
  ⟨h.len, h.le, h.max, fun hn => by
    obtain ⟨g, o, e, p, q⟩ := h.at_ hn
    exact ⟨g, o, e, k g p, q⟩⟩

/-- One argument on the wire. -/
def bulk (a : ByteArray) : List UInt8 := hline 36 a.size ++ (a.data.toList ++ [13, 10])
/-- The first k arguments on the wire. -/
def bulksTo (L : List ByteArray) (k : Nat) : List UInt8 := ((L.take k).map bulk).flatten
/-- A command on the wire. -/
def cmd (L : List ByteArray) : List UInt8 := hline 42 L.length ++ bulksTo L L.length

/-- What the laws' own bound counts: sixteen and the length, an argument. -/
def cost (L : List ByteArray) : Nat := (L.map fun a => 16 + a.size).sum

theorem getD_eq {L : List ByteArray} {k : Nat} (h : k < L.length) : L.getD k ByteArray.empty = L[k] := by simp [List.getD, List.getElem?_eq_getElem h]

theorem bulksTo_succ (L : List ByteArray) (k : Nat) (h : k < L.length) : bulksTo L (k + 1) = bulksTo L k ++ bulk (L.getD k ByteArray.empty) := by
  unfold bulksTo
  rw [List.take_succ_eq_append_getElem h, getD_eq h]
  simp only [List.map_append, List.flatten_append, List.map_cons, List.map_nil, List.flatten_cons, List.flatten_nil, List.append_nil]
theorem bulksTo_zero (L : List ByteArray) : bulksTo L 0 = [] := by simp [bulksTo]

theorem itoa_nat_len (n : Nat) (h : n ≤ 1048576) : (Lib.itoa (n : Int)).length ≤ 7 := by
  rw [Lib.itoa_nonneg, Lib.decDigits_length]
  by_cases h1 : n < 10
  · rw [Lib.nDigits_small h1]; omega
  rw [Lib.nDigits_big h1]
  by_cases h2 : n / 10 < 10
  · rw [Lib.nDigits_small h2]; omega
  rw [Lib.nDigits_big h2]
  by_cases h3 : n / 10 / 10 < 10
  · rw [Lib.nDigits_small h3]; omega
  rw [Lib.nDigits_big h3]
  by_cases h4 : n / 10 / 10 / 10 < 10
  · rw [Lib.nDigits_small h4]; omega
  rw [Lib.nDigits_big h4]
  by_cases h5 : n / 10 / 10 / 10 / 10 < 10
  · rw [Lib.nDigits_small h5]; omega
  rw [Lib.nDigits_big h5]
  by_cases h6 : n / 10 / 10 / 10 / 10 / 10 < 10
  · rw [Lib.nDigits_small h6]; omega
  rw [Lib.nDigits_big h6, Lib.nDigits_small (by omega)]
  omega

theorem bulk_length (a : ByteArray) : (bulk a).length = (Lib.itoa (a.size : Int)).length + a.size + 5 := by
  have : a.data.toList.length = a.size := (Lib.size_eq a).symm
  simp [bulk, hline_length, this]
  omega
theorem bulk_le (a : ByteArray) (h : a.size ≤ 1048576) : (bulk a).length ≤ 16 + a.size := by
  rw [bulk_length]
  have := itoa_nat_len a.size h
  omega

theorem cost_cons (a : ByteArray) (L : List ByteArray) : cost (a :: L) = 16 + a.size + cost L := by simp [cost]
theorem cost_mem {L : List ByteArray} {a : ByteArray} (h : a ∈ L) : 16 + a.size ≤ cost L := by
  induction L with
  | nil => cases h
  | cons b L ih =>
    rw [cost_cons]
    rcases List.mem_cons.1 h with rfl | h
    · omega
    · have := ih h; omega
theorem cost_len (L : List ByteArray) : 16 * L.length ≤ cost L := by
  induction L with
  | nil => simp [cost]
  | cons b L ih => rw [cost_cons, List.length_cons]; omega
theorem flat_le (L : List ByteArray) (h : cost L ≤ 1048576) : ((L.map bulk).flatten).length ≤ cost L := by
  induction L with
  | nil => simp
  | cons b L ih =>
    rw [cost_cons] at h ⊢
    rw [List.map_cons, List.flatten_cons, List.length_append]
    have := ih (by omega)
    have := bulk_le b (by omega)
    omega
theorem cost_take (L : List ByteArray) (k : Nat) : cost (L.take k) ≤ cost L := by
  induction L generalizing k with
  | nil => simp
  | cons b L ih =>
    cases k with
    | zero => simp [cost]
    | succ k => rw [List.take_succ_cons, cost_cons, cost_cons]; have := ih k; omega
theorem cost_drop (L : List ByteArray) (k : Nat) : cost (L.drop k) ≤ cost L := by
  induction L generalizing k with
  | nil => simp
  | cons b L ih =>
    cases k with
    | zero => simp
    | succ k => rw [List.drop_succ_cons, cost_cons]; have := ih k; omega
theorem bulksTo_le (L : List ByteArray) (k : Nat) (h : cost L ≤ 1048576) : (bulksTo L k).length ≤ 1048576 := by
  have := cost_take L k
  have := flat_le (L.take k) (by omega)
  unfold bulksTo
  omega
theorem size_le {L : List ByteArray} {k : Nat} (h : cost L ≤ 1048576) (hk : k < L.length) : (L.getD k ByteArray.empty).size ≤ 1048576 := by
  have := cost_mem (L := L) (a := L[k]) (List.getElem_mem hk)
  rw [getD_eq hk]
  omega
theorem cmd_le (L : List ByteArray) (h : cost L ≤ 1048576) : (cmd L).length ≤ 1048586 := by
  have h1 := cost_len L
  have := itoa_nat_len L.length (by omega)
  have := bulksTo_le L L.length h
  unfold cmd
  rw [List.length_append, hline_length]
  omega

set_option maxHeartbeats 1600000 in
set_option maxRecDepth 100000 in
theorem command (Pt : Nat → Prop) (s b r q : Nat) (sv : Value) (out pend : List UInt8) (L : List ByteArray) (ao : Option Addr) (n c : Nat) (w : World) (h : Rw Pt s b r q sv out pend w) (hA : Args Pt L ao n c w) (hL : cost L ≤ 1048576)
    (htab : Tab w) (hP : Pt 1) (hlim : out.length + pend.length ≤ 1048576) :
    Calls Tryd.prog 39 #[.pointer (some ⟨q, 0, none⟩), .slice ao n c] w fun e w' => e = .returned (.tuple #[]) ∧
      ∃ sv2 o2 p2, Rw Pt s b r q sv2 o2 p2 w' ∧ o2 ++ p2 = out ++ pend ++ cmd L ∧ Kept Pt w w' := by
  have hlen := hA.len
  have hn16 : 16 * n ≤ 1048576 := by have := cost_len L; omega
  have Hlen := Lib.hid hlen
  have hbk := fun k => bulksTo_le L k hL
  have Hbk := Lib.hid hbk
  have hit : (hline 42 (n : Int)).length ≤ 10 := by have := itoa_nat_len n (by omega); rw [hline_length]; omega
  have Hit := Lib.hid hit
  clear hlen hbk hit
  go_enter Tryd.func39, Tryd.ntmps39
  go_wp2_with (go_at_call 28; refine (array Pt s b r q sv out pend n (by omega) (by omega) _ h htab hP (by omega)).mono ?_; rintro e w1 ⟨rfl, sv1, o1, p1, r1, l1, z1, k1⟩; refine Hid.out ?_)
  refine Lib.hid ?_
  have L1 := Lib.hid l1
  clear l1 z1
  go_wp2
  go_loopw [12] (fun i wr => ∃ k : Nat, k ≤ n ∧ i = .int .i64 k ∧ ∃ sv2 o2 p2, Rw Pt s b r q sv2 o2 p2 wr ∧ Hid (o2 ++ p2 = out ++ pend ++ (hline 42 n ++ bulksTo L k)) ∧ Kept Pt w wr) (fun i _ => n - (intOf i).toNat)
  case atStart => exact ⟨0, Nat.zero_le _, rfl, sv1, o1, p1, r1, Lib.hid (by rw [bulksTo_zero, List.append_nil]; exact L1.out), k1⟩
  case round =>
    obtain ⟨k, hk, rfl, sv2, o2, p2, r2, L2, k2⟩ := hrel
    by_cases hlt : k < n
    · obtain ⟨g, o, rfl, pg, hc⟩ := hA.at_ (by omega)
      have c1 := (k2.cell (p := ⟨g, o + k, none⟩) pg).trans (hc k hlt)
      have hsz := size_le hL (k := k) (by rw [Hlen.out]; exact hlt)
      have hst := bulksTo_succ L k (by rw [Hlen.out]; exact hlt)
      obtain ⟨a, ha⟩ : ∃ a, a = L.getD k ByteArray.empty := ⟨_, rfl⟩
      rw [← ha] at c1 hsz hst
      have Hst := Lib.hid hst
      clear ha hst
      have n2 : Hid (o2.length + p2.length ≤ 2097162) := by
        have := congrArg List.length L2.out
        simp only [List.length_append] at this
        have := Hbk.out k
        have := Hit.out
        show _ ≤ _
        omega
      have tab2 : Tab wr := htab.kept (k2.block 1 hP)
      have b0 : (0 : Int) ≤ k := by omega
      have b1 : (k : Int) < n := by omega
      go_wp2_with (go_at_call 40; refine (header Pt s b r q sv2 o2 p2 36 36 rfl a.size (by omega) (by omega) _ r2 tab2 hP (by have := n2.out; omega)).mono ?_; rintro e w3 ⟨rfl, sv3, o3, p3, r3, l3, z3, k3⟩; refine Hid.out ?_)
      refine Lib.hid ?_
      have L3 := Lib.hid l3
      have n3 : Hid (o3.length + p3.length ≤ 2097186) := by
        have := congrArg List.length L3.out
        simp only [List.length_append, hline_length] at this
        have := itoa_nat_len a.size hsz
        have := n2.out
        show _ ≤ _
        omega
      clear l3 z3
      have c0 := r3.c0
      go_wp2_with (go_at_call 36; refine (writeString (Scr Pt q sv3) s b r o3 p3 a _ r3.bw (by have := n3.out; omega)).mono ?_; rintro e w4 ⟨rfl, o4, p4, h4, l4, z4, k4⟩; refine Hid.out ?_)
      refine Lib.hid ?_
      have r4 := r3.next h4 k4
      have L4 := Lib.hid l4
      have n4 : Hid (o4.length + p4.length ≤ 3145762) := by
        have := congrArg List.length L4.out
        simp only [List.length_append] at this
        have : a.data.toList.length = a.size := (Lib.size_eq a).symm
        have := n3.out
        show _ ≤ _
        omega
      clear l4 z4 c0
      have c0 := r4.c0
      go_wp2_with (go_at_call 36; refine (writeString (Scr Pt q sv3) s b r o4 p4 ⟨#[13, 10]⟩ _ r4.bw (by have := n4.out; show _ + 2 ≤ _; omega)).mono ?_; rintro e w5 ⟨rfl, o5, p5, h5, l5, z5, k5⟩; refine Hid.out ?_)
      refine Lib.hid ?_
      have r5 := r4.next h5 k5
      have L5 := Lib.hid l5
      clear l5 z5 c0
      have K5 := (k2.trans k3).trans ((k4.trans k5).mono fun i hi => .inl hi)
      clear r2 r3 r4 k3 k4 k5 h4 h5 c1 hc
      go_wp2
      go_roundw
      case rel =>
        refine ⟨k + 1, by omega, by go_num, sv3, o5, p5, r5, Lib.hid ?_, K5⟩
        rw [L5.out, L4.out, L3.out, L2.out, Hst.out]
        simp [bulk]
      case measure => simp [intOf]; omega
    · have hkn : k = n := by omega
      subst hkn
      go_wp2
      go_end0
      refine ⟨rfl, sv2, o2, p2, r2, ?_, k2⟩
      rw [L2.out, cmd, Hlen.out]

end Go.Proofs.Qxb6616850aDoor
