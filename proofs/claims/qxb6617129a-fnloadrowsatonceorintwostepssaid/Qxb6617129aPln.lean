/-
  What loading rows does, plainly. No walk.
-/
import Derived.Test.Qxb6617129aFrm
namespace Go.Proofs.Qxb6617129a
open Go.RowKit

/-- Word i of row r. -/
def word (ce al : List Value) (cn r i : Nat) : Nat := bitsN ce ((r * cn + 64 * i) / 64) ((r * cn + 64 * i) % 64) (wN al i)
/-- One word laid into held and union. -/
def stepF (ce al : List Value) (cn wn r i : Nat) (st : List Value × List Value) : List Value × List Value :=
  (st.1.set (r * wn + i) (.int .u64 (word ce al cn r i : Nat)), st.2.set i (.int .u64 (wN st.2 i ||| word ce al cn r i : Nat)))
/-- The first i words of row r. -/
def rowF (ce al : List Value) (cn wn r : Nat) : Nat → List Value × List Value → List Value × List Value
  | 0, st => st
  | i + 1, st => stepF ce al cn wn r i (rowF ce al cn wn r i st)
/-- m rows from row l on. -/
def rowsF (ce al : List Value) (cn wn l : Nat) : Nat → List Value × List Value → List Value × List Value
  | 0, st => st
  | m + 1, st => rowF ce al cn wn (l + m) wn (rowsF ce al cn wn l m st)

theorem rowsF_add (ce al : List Value) (cn wn l m1 m2 : Nat) (st : List Value × List Value) : rowsF ce al cn wn l (m1 + m2) st = rowsF ce al cn wn (l + m1) m2 (rowsF ce al cn wn l m1 st) := by
  induction m2 with
  | zero => rfl
  | succ k ih =>
    show rowF ce al cn wn (l + (m1 + k)) wn (rowsF ce al cn wn l (m1 + k) st) = rowF ce al cn wn (l + m1 + k) wn (rowsF ce al cn wn (l + m1) k (rowsF ce al cn wn l m1 st))
    rw [ih, Nat.add_assoc]

/-- What is kept: the lengths, and that the cells are words. -/
structure StOk (nh nu : Nat) (st : List Value × List Value) : Prop where
  l1 : st.1.length = nh
  l2 : st.2.length = nu
  t1 : ∀ v ∈ st.1, IsU v
  t2 : ∀ v ∈ st.2, IsU v

theorem wN_lt {xs : List Value} (h : ∀ v ∈ xs, IsU v) (i : Nat) (hi : i < xs.length) : IsU (xs.getD i undef) ∧ wN xs i < 18446744073709551616 := by
  have e : xs.getD i undef = xs[i] := by simp [List.getD, List.getElem?_eq_getElem hi]
  have hu : IsU (xs.getD i undef) := by rw [e]; exact h _ (List.getElem_mem hi)
  exact ⟨hu, (wN_of hu).2⟩
theorem word_lt {ce al : List Value} {cn r i : Nat} (h : ∀ v ∈ al, IsU v) (hi : i < al.length) : word ce al cn r i < 18446744073709551616 :=
  Nat.lt_of_le_of_lt Nat.and_le_right (wN_lt h i hi).2

theorem stepF_ok {ce al : List Value} {cn wn r i nh nu : Nat} {st : List Value × List Value} (h : StOk nh nu st) (ha : ∀ v ∈ al, IsU v) (hi : i < al.length) (hu : i < nu) : StOk nh nu (stepF ce al cn wn r i st) := by
  refine ⟨by simp [stepF, h.l1], by simp [stepF, h.l2], fun v hv => ?_, fun v hv => ?_⟩
  · rcases List.mem_or_eq_of_mem_set hv with h1 | h1
    · exact h.t1 v h1
    · exact ⟨_, h1, word_lt ha hi⟩
  · rcases List.mem_or_eq_of_mem_set hv with h1 | h1
    · exact h.t2 v h1
    · exact ⟨_, h1, or_lt64 (wN_lt h.t2 i (by rw [h.l2]; exact hu)).2 (word_lt ha hi)⟩
theorem rowF_ok {ce al : List Value} {cn wn r nh nu : Nat} {st : List Value × List Value} (h : StOk nh nu st) (ha : ∀ v ∈ al, IsU v) (hu : al.length ≤ nu) : ∀ i, i ≤ al.length → StOk nh nu (rowF ce al cn wn r i st)
  | 0, _ => h
  | i + 1, hi => stepF_ok (rowF_ok h ha hu i (by omega)) ha (by omega) (by omega)
theorem rowsF_ok {ce al : List Value} {cn wn l nh nu : Nat} {st : List Value × List Value} (h : StOk nh nu st) (ha : ∀ v ∈ al, IsU v) (hu : al.length ≤ nu) (hw : wn = al.length) : ∀ m, StOk nh nu (rowsF ce al cn wn l m st)
  | 0 => h
  | m + 1 => rowF_ok (rowsF_ok h ha hu hw m) ha hu wn (by omega)

end Go.Proofs.Qxb6617129a
