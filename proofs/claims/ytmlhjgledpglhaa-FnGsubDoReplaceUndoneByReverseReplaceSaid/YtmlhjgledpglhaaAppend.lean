/-
  Appending a string's bytes to a row of the call's own: where the new row lies (the old block, or a new one).
-/
import Derived.Test.YtmlhjgledpglhaaStr
import Derived.Lib.AppendStr
import Derived.Deep.AppendLies
namespace Go.Proofs.Ytmlhjgledpglhaa
open Go.RowKit Go.Lib
set_option linter.unusedVariables false

section
variable {P : Program} (w : World)
theorem run_append_string_at (base : Nat) (t u ty e : TypeId) (i : TypeInfo) (ht : P.underlying t = some (.slice e)) (hu : P.underlying u = some .string) (hi : P.info? e = some i) (hz : i.zero = some (.int .u8 0))
    (hsize : i.size = 1) (hby : i.bytes = 1) (g n cap : Nat) (xs : List Value) (hown : w.ownsRow base e 1 (.slice (some ⟨g, 0, none⟩) n cap) n xs) (s : ByteArray)
    (h63 : n + s.size ≤ 4194304) (hbase : base ≤ w.heap.size) :
    ∃ g' c' w', (Builtin.append_ #[t, u] ty #[.slice (some ⟨g, 0, none⟩) n cap, .string s]).run P w = .ok (.slice (some ⟨g', 0, none⟩) (n + s.size) c') w' ∧ w'.ownsRow base e 1 (.slice (some ⟨g', 0, none⟩) (n + s.size) c') (n + s.size) (xs ++ strCells s) ∧
      w.grownBy w' (some g) ∧ (g' = g ∨ g' = w.heap.size) := by
  obtain ⟨v', w', hr, h2, h3, h4⟩ := run_append_own_string (P := P) w base t u ty e i ht hu hi hz hsize hby _ n xs hown s (by unfold maxLen; omega) (by omega) hbase
  have hxl : xs.length = n := by simpa using hown.1
  by_cases hroom : n + s.size ≤ cap
  · rcases hown.2 with ⟨h', _⟩ | ⟨g1, cap1, cur, h', hb, hg, hnc, hcm, hcs, htake⟩
    · simp at h'
    · simp only [Value.slice.injEq, Option.some.injEq, Addr.mk.injEq, and_true, true_and] at h'
      obtain ⟨rfl, rfl⟩ := h'
      have hr2 := run_append_room_string (P := P) w t u ty e i ht hu hi hsize g n cap cur hg s hroom (by omega)
      rw [hr] at hr2
      injection hr2 with e1 e2
      subst e1
      exact ⟨g, cap, w', hr, h2, h3, .inl rfl⟩
  · have holds : ∀ j u, xs[j]? = some u → w.cell? ((⟨g, 0, none⟩ : Addr).add j) = some u := hown.cells (g := g) rfl
    have hr2 := run_append_grow_string (P := P) w t u ty e i (.int .u8 0) ht hu hi hz ⟨g, 0, none⟩ n cap xs (by rw [hsize]; simpa using hxl) holds s (by omega) (by omega) (by rw [hby]; exact growslice_fits (by omega) (by omega))
    rw [hr] at hr2
    injection hr2 with e1 e2
    subst e1
    exact ⟨w.heap.size, _, w', hr, h2, h3, .inr rfl⟩
end

theorem wpList_append_string_at {P : Program} {w : World} {ops : Array Oper} {rest : List Oper} {o : Oper} {a : Act} {Q : Exit → Act → World → Prop} (hgd : o.guard = none) (sl x : Operand) (t u : TypeId)
    (ho : o.op = .call { callee := .builtin .append, args := #[sl, x], argTypes := #[t, u] })
    (base : Nat) (e : TypeId) (i : TypeInfo) (ht : P.underlying t = some (.slice e)) (hu : P.underlying u = some .string) (hi : P.info? e = some i) (hz : i.zero = some (.int .u8 0))
    (hsize : i.size = 1) (hby : i.bytes = 1) (g n cap : Nat) (xs : List Value) (hs : a.eval sl = .slice (some ⟨g, 0, none⟩) n cap) (hown : w.ownsRow base e 1 (.slice (some ⟨g, 0, none⟩) n cap) n xs) (s : ByteArray) (hx : a.eval x = .string s)
    (h63 : n + s.size ≤ 4194304) (hbase : base ≤ w.heap.size)
    (h : ∀ g' c' w', w'.ownsRow base e 1 (.slice (some ⟨g', 0, none⟩) (n + s.size) c') (n + s.size) (xs ++ strCells s) → w.grownBy w' (some g) → (g' = g ∨ g' = w.heap.size) → wpList P ops Q rest (a.put o.dst (.slice (some ⟨g', 0, none⟩) (n + s.size) c')) w') : wpList P ops Q (o :: rest) a w := by
  refine wpList_plain hgd fun K hK => ?_
  obtain ⟨g', c', w', hr, h2, h3, h4⟩ := run_append_string_at (P := P) w base t u o.type e i ht hu hi hz hsize hby g n cap xs hown s h63 hbase
  unfold Oper.wp execOp
  simp only [ho, resolve, invoke, builtin, Sem.run_bind, Sem.run_pure, Result.andThen_ok, List.map_toArray, List.map_cons, List.map_nil, hs, hx, hr]
  exact hK _ _ (h g' c' w' h2 h3 h4)
end Go.Proofs.Ytmlhjgledpglhaa
