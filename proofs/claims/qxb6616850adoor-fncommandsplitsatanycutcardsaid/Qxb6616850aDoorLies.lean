/-
  'append(b, s...)', s a string, b a slice of bytes that the call owns: the kit's law, and where the new slice lies. No dump.
-/
import Derived.Lib.AppendStr
import Derived.Deep.AppendLies
namespace Go.Proofs.Qxb6616850aDoor

/-- The new value's block is the old one, or new. -/
def Lies (v v' : Value) (H : Nat) : Prop := ∀ g, v'.ownBlock = some g → v.ownBlock = some g ∨ H ≤ g

theorem run_append_lies_str {P : Program} (w : World) (t u ty e : TypeId) (i : TypeInfo) (ht : P.underlying t = some (.slice e)) (hu : P.underlying u = some .string) (hi : P.info? e = some i) (hz : i.zero = some (.int .u8 0))
    (hsize : i.size = 1) (hby : i.bytes = 1) (v : Value) (n : Nat) (xs : List Value) (hown : w.ownsRow 0 e 1 v n xs) (s : ByteArray) (h63 : n + s.size ≤ maxLen) (hbytes : n + s.size ≤ 140737488355328) :
    ∃ v' w', (Builtin.append_ #[t, u] ty #[v, .string s]).run P w = .ok v' w' ∧ w'.ownsRow 0 e 1 v' (n + s.size) (xs ++ Lib.strCells s) ∧ w.grownBy w' v.ownBlock ∧ Lies v v' w.heap.size := by
  rcases hown.2 with ⟨rfl, rfl⟩ | ⟨g, cap, cur, rfl, hbg, hg, hnc, hcm, hcs, htake⟩
  · have hx : xs = [] := List.eq_nil_of_length_eq_zero (by simpa using hown.1)
    subst hx
    obtain ⟨v', w', hr, h2, h3, _⟩ := Lib.run_append_own_string (P := P) w w.heap.size t u ty e i ht hu hi hz hsize hby (.slice none 0 0) 0 [] (World.ownsRow_nil w _ e 1) s h63 hbytes (Nat.le_refl _)
    refine ⟨v', w', hr, ⟨h2.1, ?_⟩, h3, fun g hg => .inr (h2.lt g hg).1⟩
    rcases h2.2 with h | ⟨g, cap, cur, hv, hb, rest⟩
    · exact .inl h
    · exact .inr ⟨g, cap, cur, hv, Nat.zero_le _, rest⟩
  · obtain ⟨v', w', hr, h2, h3, _⟩ := Lib.run_append_own_string (P := P) w 0 t u ty e i ht hu hi hz hsize hby (.slice (some ⟨g, 0, none⟩) n cap) n xs hown s h63 hbytes (Nat.zero_le _)
    refine ⟨v', w', hr, h2, h3, ?_⟩
    by_cases hroom : n + s.size ≤ cap
    · have hcs' : cur.size = cap := by simpa using hcs
      have hr2 := Lib.run_append_room_string (P := P) w t u ty e i ht hu hi hsize g n cap cur hg s hroom (by omega)
      rw [hr2] at hr
      injection hr with e1 e2
      subst e1
      intro g' hg'
      exact .inl hg'
    · have holds : ∀ j u, xs[j]? = some u → w.cell? ((⟨g, 0, none⟩ : Addr).add j) = some u := hown.cells (g := g) rfl
      have hsmall : n + s.size ≤ 9223372036854775807 := by simp only [maxLen] at h63; omega
      have hr2 := Lib.run_append_grow_string (P := P) w t u ty e i (.int .u8 0) ht hu hi hz ⟨g, 0, none⟩ n cap xs (by rw [hsize]; simpa using hown.1) holds s (by omega) (by omega) (by rw [hby]; exact growslice_fits (by omega) (by omega))
      rw [hr2] at hr
      injection hr with e1 e2
      subst e1
      intro g' hg'
      simp [Value.ownBlock] at hg'
      exact .inr (by omega)

theorem wpList_append_lies_str {P : Program} (w : World) {ops : Array Oper} {rest : List Oper} {o : Oper} {a : Act} {Q : Exit → Act → World → Prop} (hgd : o.guard = none) (sl x : Operand) (t u : TypeId)
    (ho : o.op = .call { callee := .builtin .append, args := #[sl, x], argTypes := #[t, u] })
    (e : TypeId) (i : TypeInfo) (ht : P.underlying t = some (.slice e)) (hu : P.underlying u = some .string) (hi : P.info? e = some i) (hz : i.zero = some (.int .u8 0))
    (hsize : i.size = 1) (hby : i.bytes = 1)
    (v : Value) (n : Nat) (xs : List Value) (hs : a.eval sl = v) (hown : w.ownsRow 0 e 1 v n xs) (s : ByteArray) (hx : a.eval x = .string s)
    (h63 : n + s.size ≤ maxLen) (hbytes : n + s.size ≤ 140737488355328)
    (h : ∀ v' w', w'.ownsRow 0 e 1 v' (n + s.size) (xs ++ Lib.strCells s) → w.grownBy w' v.ownBlock → Lies v v' w.heap.size → wpList P ops Q rest (a.put o.dst v') w') : wpList P ops Q (o :: rest) a w := by
  refine wpList_plain hgd fun K hK => ?_
  obtain ⟨v', w', hr, h2, h3, h4⟩ := run_append_lies_str (P := P) w t u o.type e i ht hu hi hz hsize hby v n xs hown s h63 hbytes
  unfold Oper.wp execOp
  simp only [ho, resolve, invoke, builtin, Sem.run_bind, Sem.run_pure, Result.andThen_ok, List.map_toArray, List.map_cons, List.map_nil, hs, hx, hr]
  exact hK _ _ (h v' w' h2 h3 h4)

end Go.Proofs.Qxb6616850aDoor
