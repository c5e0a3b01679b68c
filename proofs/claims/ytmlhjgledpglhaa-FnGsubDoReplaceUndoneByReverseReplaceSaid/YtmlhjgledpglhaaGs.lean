/-
  Plain: the splice of replacements into a list at sorted spans, and its undoing; it speaks of no program.
-/
import Derived.Test.YtmlhjgledpglhaaStr
namespace Go.Proofs.Ytmlhjgledpglhaa
open Go.RowKit
set_option linter.unusedVariables false

/-- A span's start, its end and its replacement. -/
abbrev Span := Nat × Nat × List Nat
/-- What is built so far, and up to where the list is used up. -/
def gstep (S : List Nat) (a : List Nat × Nat) (x : Span) : List Nat × Nat := (a.1 ++ (S.drop a.2).take (x.1 - a.2) ++ x.2.2, x.2.1)
def gacc (S : List Nat) (L : List Span) : List Nat × Nat := L.foldl (gstep S) ([], 0)
/-- The splice. -/
def gs (S : List Nat) (L : List Span) : List Nat := (gacc S L).1 ++ S.drop (gacc S L).2
/-- The spans lie in order, apart, and within n. -/
def gwf (S : List Nat) (L : List Span) : Prop := ∀ k x, L[k]? = some x → (gacc S (L.take k)).2 ≤ x.1 ∧ x.1 ≤ x.2.1 ∧ x.2.1 ≤ S.length

theorem gacc_nil (S : List Nat) : gacc S [] = ([], 0) := rfl
theorem gacc_snoc (S : List Nat) (L : List Span) (x : Span) : gacc S (L ++ [x]) = gstep S (gacc S L) x := by unfold gacc; rw [List.foldl_append]; rfl
theorem take_snoc_some {α : Type} {L : List α} {k : Nat} {x : α} (h : L[k]? = some x) : L.take (k + 1) = L.take k ++ [x] := by
  rw [List.take_add_one, h]; rfl
theorem gacc_take (S : List Nat) {L : List Span} {k : Nat} {x : Span} (h : L[k]? = some x) : gacc S (L.take (k + 1)) = gstep S (gacc S (L.take k)) x := by
  rw [take_snoc_some h, gacc_snoc]
theorem gacc_pos {S : List Nat} {L : List Span} (h : gwf S L) : ∀ k, k ≤ L.length → (gacc S (L.take k)).2 ≤ S.length := by
  intro k
  cases k with
  | zero => intro _; simp [gacc]
  | succ k =>
    intro hk
    have hx : L[k]? = some (L[k]'(by omega)) := List.getElem?_eq_getElem _
    rw [gacc_take S hx]
    exact (h k _ hx).2.2
/-- The part built grows. -/
theorem gacc_grow (S : List Nat) (L : List Span) : ∀ k m, k ≤ m → ∃ t, (gacc S (L.take m)).1 = (gacc S (L.take k)).1 ++ t := by
  intro k m
  induction m with
  | zero => intro h; obtain rfl : k = 0 := by omega
            exact ⟨[], by simp⟩
  | succ m ih =>
    intro h
    by_cases e : k = m + 1
    · exact ⟨[], by rw [e]; simp⟩
    obtain ⟨t, ht⟩ := ih (by omega)
    cases hx : L[m]? with
    | none =>
      have hl : L.length ≤ m := by simpa using hx
      refine ⟨t, ?_⟩
      rw [List.take_of_length_le (by omega)] at ht ⊢
      exact ht
    | some x =>
      refine ⟨t ++ (S.drop (gacc S (L.take m)).2).take (x.1 - (gacc S (L.take m)).2) ++ x.2.2, ?_⟩
      rw [gacc_take S hx, gstep, ht]
      simp [List.append_assoc]

/-- What the buffer is behind k spans. -/
def gbuf (S : List Nat) (a : List Nat × Nat) : List Nat := a.1 ++ S.drop a.2
theorem gbuf_len {S : List Nat} {a : List Nat × Nat} (h : a.2 ≤ S.length) : (gbuf S a).length + a.2 = a.1.length + S.length := by
  unfold gbuf; rw [List.length_append, List.length_drop]; omega
theorem gbuf_take {S : List Nat} {a : List Nat × Nat} {s : Nat} (h1 : a.2 ≤ s) (h2 : s ≤ S.length) : (gbuf S a).take (a.1.length + s - a.2) = a.1 ++ (S.drop a.2).take (s - a.2) := by
  unfold gbuf
  rw [List.take_append, List.take_of_length_le (by omega)]
  congr 2
  omega
theorem gbuf_drop {S : List Nat} {a : List Nat × Nat} {e : Nat} (h1 : a.2 ≤ e) : (gbuf S a).drop (a.1.length + e - a.2) = S.drop e := by
  unfold gbuf
  rw [List.drop_append, List.drop_eq_nil_of_le (by omega), List.nil_append, List.drop_drop]
  congr 1
  omega
theorem gbuf_step {S : List Nat} {a : List Nat × Nat} {x : Span} (h1 : a.2 ≤ x.1) (h2 : x.1 ≤ x.2.1) (h3 : x.2.1 ≤ S.length) :
    gbuf S (gstep S a x) = (gbuf S a).take (a.1.length + x.1 - a.2) ++ x.2.2 ++ (gbuf S a).drop (a.1.length + x.2.1 - a.2) := by
  rw [gbuf_take h1 (by omega), gbuf_drop (by omega)]
  rfl
theorem gs_gbuf (S : List Nat) (L : List Span) : gs S L = gbuf S (gacc S L) := rfl

/-- The spans that undo the splice. -/
def gback (S : List Nat) (L : List Span) (k : Nat) (x : Span) : Span :=
  ((gacc S (L.take k)).1.length + x.1 - (gacc S (L.take k)).2, (gacc S (L.take k)).1.length + x.1 - (gacc S (L.take k)).2 + x.2.2.length, (S.drop x.1).take (x.2.1 - x.1))

theorem take_add_drop {S : List Nat} {a b : Nat} (h : a ≤ b) : S.take a ++ (S.drop a).take (b - a) = S.take b := by
  rw [← List.take_add]; congr 1; omega

theorem gacc_back {S : List Nat} {L R : List Span} (hw : gwf S L) (hl : R.length = L.length) (hR : ∀ k x, L[k]? = some x → R[k]? = some (gback S L k x)) :
    ∀ k, k ≤ L.length → gacc (gs S L) (R.take k) = (S.take (gacc S (L.take k)).2, (gacc S (L.take k)).1.length) := by
  intro k
  induction k with
  | zero => intro _; simp [gacc]
  | succ k ih =>
    intro hk
    have hx : L[k]? = some (L[k]'(by omega)) := List.getElem?_eq_getElem _
    generalize L[k]'(by omega) = x at hx
    obtain ⟨h1, h2, h3⟩ := hw k x hx
    rw [gacc_take _ (hR k x hx), ih (by omega), gacc_take S hx]
    obtain ⟨t, ht⟩ := gacc_grow S L (k + 1) L.length (by omega)
    rw [List.take_length, gacc_take S hx] at ht
    have hgs : gs S L = (gacc S (L.take k)).1 ++ ((S.drop (gacc S (L.take k)).2).take (x.1 - (gacc S (L.take k)).2) ++ (x.2.2 ++ t ++ S.drop (gacc S L).2)) := by
      unfold gs
      rw [ht]
      unfold gstep
      simp [List.append_assoc]
    have e1 : (gs S L).drop (gacc S (L.take k)).1.length = (S.drop (gacc S (L.take k)).2).take (x.1 - (gacc S (L.take k)).2) ++ (x.2.2 ++ t ++ S.drop (gacc S L).2) := by
      rw [hgs, List.drop_left]
    have e2 : ((S.drop (gacc S (L.take k)).2).take (x.1 - (gacc S (L.take k)).2)).length = x.1 - (gacc S (L.take k)).2 := by
      rw [List.length_take, List.length_drop]; omega
    unfold gstep gback
    simp only
    rw [e1]
    have e3 : (gacc S (L.take k)).1.length + x.1 - (gacc S (L.take k)).2 - (gacc S (L.take k)).1.length = ((S.drop (gacc S (L.take k)).2).take (x.1 - (gacc S (L.take k)).2)).length := by rw [e2]; omega
    rw [e3, List.take_left, take_add_drop h1, take_add_drop h2]
    congr 1
    rw [List.length_append, List.length_append, e2]
    omega
/-- The splice undone. -/
theorem gs_back {S : List Nat} {L R : List Span} (hw : gwf S L) (hl : R.length = L.length) (hR : ∀ k x, L[k]? = some x → R[k]? = some (gback S L k x)) : gs (gs S L) R = S := by
  have h := gacc_back hw hl hR L.length (Nat.le_refl _)
  rw [← hl, List.take_length, hl, List.take_length] at h
  unfold gs at h ⊢
  rw [h]
  simp only
  rw [List.drop_left, List.take_append_drop]
theorem gback_wf {S : List Nat} {L R : List Span} (hw : gwf S L) (hl : R.length = L.length) (hR : ∀ k x, L[k]? = some x → R[k]? = some (gback S L k x)) : gwf (gs S L) R := by
  intro k y hy
  have hk : k < L.length := by rw [← hl]; exact (List.getElem?_eq_some_iff.1 hy).1
  have hx : L[k]? = some (L[k]'hk) := List.getElem?_eq_getElem _
  generalize L[k]'hk = x at hx
  obtain ⟨h1, h2, h3⟩ := hw k x hx
  rw [hR k x hx] at hy
  obtain rfl := Option.some.inj hy
  rw [gacc_back hw hl hR k (by omega)]
  obtain ⟨t, ht⟩ := gacc_grow S L (k + 1) L.length (by omega)
  rw [List.take_length, gacc_take S hx] at ht
  have e2 : ((S.drop (gacc S (L.take k)).2).take (x.1 - (gacc S (L.take k)).2)).length = x.1 - (gacc S (L.take k)).2 := by
    rw [List.length_take, List.length_drop]; omega
  unfold gback
  refine ⟨?_, ?_, ?_⟩
  · simp only; omega
  · simp only; omega
  · unfold gs
    rw [ht]
    unfold gstep
    simp only [List.length_append, e2]
    omega
end Go.Proofs.Ytmlhjgledpglhaa
