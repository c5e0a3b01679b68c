/-
  A byte slice that is a row of the call's own, or empty with no room: appending bytes or a string's bytes to it.
-/
import Derived.Test.YtmlhjgledpglhaaAppend
import Derived.Test.YtmlhjgledpglhaaScan
import Derived.ArgAppend
namespace Go.Proofs.Ytmlhjgledpglhaa
open Go.RowKit Go.Lib
set_option linter.unusedVariables false

/-- The slice (g, n, c) owns the cells xs, or is empty and has no room. -/
def Oe (w : World) (B g n c : Nat) (xs : List Value) : Prop := B ≤ g ∧ g < w.heap.size ∧ xs.length = n ∧ (w.ownsRow B 5 1 (.slice (some ⟨g, 0, none⟩) n c) n xs ∨ (n = 0 ∧ c = 0))

theorem Oe.of_own {w : World} {B g n c : Nat} {xs : List Value} (h : w.ownsRow B 5 1 (.slice (some ⟨g, 0, none⟩) n c) n xs) : Oe w B g n c xs := ⟨(h.lt g rfl).1, (h.lt g rfl).2, by simpa using h.1, .inl h⟩
theorem Oe.arg {w : World} {B g n c : Nat} {xs : List Value} (h : Oe w B g n c xs) : Arg w (some ⟨g, 0, none⟩) n c xs := by
  obtain ⟨h1, h2, h3, h4 | ⟨rfl, rfl⟩⟩ := h
  · rcases h4.2 with ⟨h', _⟩ | ⟨g', cap', cur, h', hb, hg, hnc, hcm, hcs, htake⟩
    · simp at h'
    · simp only [Value.slice.injEq, Option.some.injEq, Addr.mk.injEq, and_true, true_and] at h'
      obtain ⟨rfl, rfl⟩ := h'
      refine ⟨h3, hnc, hcm, fun h => by simp at h, fun _ => ⟨g, 0, rfl, h2, fun i u hu => ?_⟩⟩
      have := h4.cells (g := g) rfl i u hu
      simpa [Addr.add_lit] using this
  · exact ⟨h3, Nat.le_refl _, by unfold maxLen; omega, fun h => by simp at h, fun h => absurd h (by omega)⟩
theorem Oe.grown {w w' : World} {B g n c : Nat} {xs : List Value} {row : Option Nat} (h : Oe w B g n c xs) (hg : w.grownBy w' row) (hr : row ≠ some g) : Oe w' B g n c xs := by
  obtain ⟨h1, h2, h3, h4⟩ := h
  refine ⟨h1, Nat.lt_of_lt_of_le h2 hg.size, h3, ?_⟩
  rcases h4 with h4 | h4
  · exact .inl (h4.kept hg (.inr (by simpa [Value.ownBlock] using Ne.symm hr)))
  · exact .inr h4
theorem own_mono {w : World} {B B' n : Nat} {v : Value} {xs : List Value} (h : w.ownsRow B' 5 1 v n xs) (hB : B ≤ B') : w.ownsRow B 5 1 v n xs := by
  refine ⟨h.1, ?_⟩
  rcases h.2 with h' | ⟨g, cap, cur, h1, h2, h3⟩
  · exact .inl h'
  · exact .inr ⟨g, cap, cur, h1, by omega, h3⟩
theorem grown_weak {w w' : World} (h : w.grownBy w' none) (g : Nat) : w.grownBy w' (some g) := ⟨h.os, h.tape, h.output, h.size, fun i hi _ => h.block i hi (by simp)⟩

/-- What an append to it leaves. -/
def OeNext (w : World) (B g : Nat) (n : Nat) (xs : List Value) (r : Result Value) : Prop :=
  ∃ g' c' w', r = .ok (.slice (some ⟨g', 0, none⟩) n c') w' ∧ Oe w' B g' n c' xs ∧ w.grownBy w' (some g) ∧ (g' = g ∨ w.heap.size ≤ g')

theorem run_append_oe (w : World) (B g n c ty : Nat) (xs : List Value) (h : Oe w B g n c xs) (ad : Addr) (m c2 : Nat) (news : List Value) (hl : news.length = m) (hc : ∀ j u, news[j]? = some u → w.cell? (ad.add j) = some u) (h1 : ∀ u ∈ news, u.oneCell' = true)
    (hs : n + m ≤ 4194304) (hB : B ≤ w.heap.size) : OeNext w B g (n + m) (xs ++ news) ((Builtin.append_ #[27, 27] ty #[.slice (some ⟨g, 0, none⟩) n c, .slice (some ad) m c2]).run Try.prog w) := by
  obtain ⟨i1, hi1, hz1, hs1, hb1⟩ := info_parts info5
  obtain ⟨b1, b2, b3, b4 | ⟨rfl, rfl⟩⟩ := h
  · obtain ⟨v', w', hr, k1, k2, k3, k4⟩ := run_append_own_at (P := Try.prog) w B 27 ty 5 i1 _ 1 1 Try.underlying27 hi1 hz1 hs1 hb1 rfl (by omega) _ n xs b4 ad m c2 news (by simpa using hl) hc h1 (by unfold maxLen; omega) (by omega) hB
    rcases k1.2 with ⟨h', _⟩ | ⟨g', cap', cur, rfl, _⟩
    · rw [h'] at k3
      have := k3.1 rfl
      simp at this
    · refine ⟨g', cap', w', hr, Oe.of_own k1, by simpa [Value.ownBlock] using k2, ?_⟩
      rcases k4 with k4 | k4
      · left; simpa [Value.ownBlock] using k4
      · right; have : g' = w.heap.size := by simpa [Value.ownBlock] using k4
        omega
  · obtain rfl : xs = [] := List.eq_nil_of_length_eq_zero b3
    by_cases hm : m = 0
    · subst hm
      obtain rfl : news = [] := List.eq_nil_of_length_eq_zero hl
      refine ⟨g, 0, w, ?_, ⟨b1, b2, rfl, .inr ⟨rfl, rfl⟩⟩, World.grownBy.refl w _, .inl rfl⟩
      have hld : (loadCells ad 0).run Try.prog w = .ok #[] w := by simp [loadCells, loadCellsFrom, Sem.run_pure]
      simp [Builtin.append_, run_underlying Try.underlying27, sizeOf, typeInfo, hi1, Builtin.lenOf, Builtin.firstCells, storeCells, hld]
    · obtain ⟨v', w', hr, k1, k2⟩ := run_append_arg_grows (P := Try.prog) w 27 ty 5 i1 _ 1 1 Try.underlying27 hi1 hz1 hs1 hb1 rfl (by omega) ⟨g, 0, none⟩ 0 0 [] rfl (fun j u h => by simp at h) ad m c2 news (by simpa using hl) hc (by omega) (by unfold maxLen; omega) (by omega)
      obtain ⟨g', cap', rfl, hb, hlt⟩ := k1.form (by omega)
      exact ⟨g', cap', w', hr, Oe.of_own (own_mono k1 hB), grown_weak k2 g, .inr hb⟩

theorem run_append_oe_string (w : World) (B g n c ty : Nat) (xs : List Value) (h : Oe w B g n c xs) (s : ByteArray) (hs : n + s.size ≤ 4194304) (hB : B ≤ w.heap.size) :
    OeNext w B g (n + s.size) (xs ++ strCells s) ((Builtin.append_ #[27, 9] ty #[.slice (some ⟨g, 0, none⟩) n c, .string s]).run Try.prog w) := by
  obtain ⟨i1, hi1, hz1, hs1, hb1⟩ := info_parts info5
  obtain ⟨b1, b2, b3, b4 | ⟨rfl, rfl⟩⟩ := h
  · obtain ⟨g', c', w', hr, k1, k2, k3⟩ := run_append_string_at (P := Try.prog) w B 27 9 ty 5 i1 Try.underlying27 Try.underlying9 hi1 hz1 hs1 hb1 g n c xs b4 s hs hB
    exact ⟨g', c', w', hr, Oe.of_own k1, k2, by omega⟩
  · obtain rfl : xs = [] := List.eq_nil_of_length_eq_zero b3
    by_cases hm : s.size = 0
    · obtain rfl : s = ByteArray.empty := by
        obtain ⟨⟨l⟩⟩ := s
        cases l with
        | nil => rfl
        | cons a l => simp [ByteArray.size] at hm
      refine ⟨g, 0, w, ?_, ⟨b1, b2, by simp [strCells], .inr ⟨rfl, rfl⟩⟩, World.grownBy.refl w _, .inl rfl⟩
      have hf : (Builtin.firstCells 1 0 (.string ByteArray.empty)).run Try.prog w = .ok #[] w := run_firstCells_string (P := Try.prog) w 1 ByteArray.empty
      simp [Builtin.append_, run_underlying Try.underlying27, run_underlying Try.underlying9, sizeOf, typeInfo, hi1, hs1, Builtin.lenOf, storeCells, hf]
    · have hr := run_append_grow_string (P := Try.prog) w 27 9 ty 5 i1 (.int .u8 0) Try.underlying27 Try.underlying9 hi1 hz1 ⟨g, 0, none⟩ 0 0 [] (by simp) (fun j u h => by simp at h) s (by omega) (by omega) (by rw [hb1]; exact growslice_fits (by omega) (by omega))
      have hge := grownCap_ge w (0 + s.size) 0 5
      have hcm : grownCap w (0 + s.size) 0 5 ≤ maxLen := grownCap_le_maxLen w (0 + s.size) 0 5 (by unfold maxLen; omega)
      refine ⟨_, _, _, hr, Oe.of_own ⟨by rw [List.length_append, strCells_length]; simp, .inr ⟨w.heap.size, _, _, rfl, hB, heap_alloc_new w.drew _, hge, hcm, ?_, ?_⟩⟩, ⟨rfl, rfl, rfl, by simp, fun k hk _ => Below.heap_alloc w.drew _ k hk⟩, .inr (Nat.le_refl _)⟩
      · have hz1 : (Value.int IntKind.u8 0).cells.size = 1 := rfl
        simp only [Array.size_append, List.size_toArray, size_zeroCells, hz1, strCells_length, List.length_nil]
        omega
      · simp only [Array.toList_append, List.nil_append]
        rw [Nat.zero_add, Nat.mul_one, ← strCells_length s]
        exact List.take_left

theorem wpList_append_oe {w : World} {ops : Array Oper} {rest : List Oper} {o : Oper} {a : Act} {Q : Exit → Act → World → Prop} (hgd : o.guard = none) (sl x : Operand)
    (ho : o.op = .call { callee := .builtin .append, args := #[sl, x], argTypes := #[27, 27] }) (B g n c : Nat) (xs : List Value) (hs : a.eval sl = .slice (some ⟨g, 0, none⟩) n c) (h : Oe w B g n c xs)
    (ad : Addr) (m c2 : Nat) (news : List Value) (hx : a.eval x = .slice (some ad) m c2) (hl : news.length = m) (hc : ∀ j u, news[j]? = some u → w.cell? (ad.add j) = some u) (h1 : ∀ u ∈ news, u.oneCell' = true)
    (hs2 : n + m ≤ 4194304) (hB : B ≤ w.heap.size)
    (hk : ∀ g' c' w', Oe w' B g' (n + m) c' (xs ++ news) → w.grownBy w' (some g) → (g' = g ∨ w.heap.size ≤ g') → wpList Try.prog ops Q rest (a.put o.dst (.slice (some ⟨g', 0, none⟩) (n + m) c')) w') : wpList Try.prog ops Q (o :: rest) a w := by
  refine wpList_plain hgd fun K hK => ?_
  obtain ⟨g', c', w', hr, h2, h3, h4⟩ := run_append_oe w B g n c o.type xs h ad m c2 news hl hc h1 hs2 hB
  unfold Oper.wp execOp
  simp only [ho, resolve, invoke, builtin, Sem.run_bind, Sem.run_pure, Result.andThen_ok, List.map_toArray, List.map_cons, List.map_nil, hs, hx, hr]
  exact hK _ _ (hk g' c' w' h2 h3 h4)
theorem wpList_append_oe_string {w : World} {ops : Array Oper} {rest : List Oper} {o : Oper} {a : Act} {Q : Exit → Act → World → Prop} (hgd : o.guard = none) (sl x : Operand)
    (ho : o.op = .call { callee := .builtin .append, args := #[sl, x], argTypes := #[27, 9] }) (B g n c : Nat) (xs : List Value) (hs : a.eval sl = .slice (some ⟨g, 0, none⟩) n c) (h : Oe w B g n c xs)
    (s : ByteArray) (hx : a.eval x = .string s) (hs2 : n + s.size ≤ 4194304) (hB : B ≤ w.heap.size)
    (hk : ∀ g' c' w', Oe w' B g' (n + s.size) c' (xs ++ strCells s) → w.grownBy w' (some g) → (g' = g ∨ w.heap.size ≤ g') → wpList Try.prog ops Q rest (a.put o.dst (.slice (some ⟨g', 0, none⟩) (n + s.size) c')) w') : wpList Try.prog ops Q (o :: rest) a w := by
  refine wpList_plain hgd fun K hK => ?_
  obtain ⟨g', c', w', hr, h2, h3, h4⟩ := run_append_oe_string w B g n c o.type xs h s hs2 hB
  unfold Oper.wp execOp
  simp only [ho, resolve, invoke, builtin, Sem.run_bind, Sem.run_pure, Result.andThen_ok, List.map_toArray, List.map_cons, List.map_nil, hs, hx, hr]
  exact hK _ _ (hk g' c' w' h2 h3 h4)
end Go.Proofs.Ytmlhjgledpglhaa
