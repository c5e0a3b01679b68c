/-
  Plain: the spans that the arguments give.
-/
import Derived.Test.YtmlhjgledpglhaaInfo
namespace Go.Proofs.Ytmlhjgledpglhaa
open Go.RowKit
set_option linter.unusedVariables false

def spansOf (ss es : List Int) (rs : List ByteArray) (n : Nat) : List Span := (List.range n).map fun i => ((ss.getD i 0).toNat, (es.getD i 0).toNat, bs (rs.getD i ByteArray.empty))

theorem pv_nonneg {m n : Nat} {ss es : List Int} (hs : ss.length = n) (he : es.length = n) (h : ∀ i, i < n → okE m ss es i) : ∀ k, k ≤ n → 0 ≤ pvE es k := by
  intro k
  induction k with
  | zero => intro _; simp [pvE]
  | succ k ih =>
    intro hk
    have h1 : ss[k]? = some (ss[k]'(by omega)) := List.getElem?_eq_getElem _
    have h2 : es[k]? = some (es[k]'(by omega)) := List.getElem?_eq_getElem _
    rw [pvE_succ h2]
    have := h k (by omega) _ _ h1 h2
    have := ih (by omega)
    omega
theorem spans_len (ss es : List Int) (rs : List ByteArray) (n : Nat) : (spansOf ss es rs n).length = n := by simp [spansOf]
theorem spans_at {m n : Nat} {ss es : List Int} {rs : List ByteArray} (hs : ss.length = n) (he : es.length = n) (hr : rs.length = n) (h : ∀ i, i < n → okE m ss es i) (i : Nat) (x : Span) (hx : (spansOf ss es rs n)[i]? = some x) :
    ss[i]? = some (x.1 : Int) ∧ es[i]? = some (x.2.1 : Int) ∧ ∃ z, rs[i]? = some z ∧ bs z = x.2.2 := by
  have hi : i < n := by have := (List.getElem?_eq_some_iff.1 hx).1; rw [spans_len] at this; exact this
  have h1 : ss[i]? = some (ss[i]'(by omega)) := List.getElem?_eq_getElem _
  have h2 : es[i]? = some (es[i]'(by omega)) := List.getElem?_eq_getElem _
  have h3 : rs[i]? = some (rs[i]'(by omega)) := List.getElem?_eq_getElem _
  have hk := h i hi _ _ h1 h2
  have hp := pv_nonneg hs he h i (by omega)
  simp only [spansOf, List.getElem?_map, List.getElem?_range hi, Option.map_some, Option.some.injEq] at hx
  subst hx
  refine ⟨?_, ?_, _, h3, ?_⟩
  · simp only [List.getD_eq_getElem?_getD, h1, Option.getD_some]; congr 1; omega
  · simp only [List.getD_eq_getElem?_getD, h2, Option.getD_some]; congr 1; omega
  · simp only [List.getD_eq_getElem?_getD, h3, Option.getD_some]
theorem spans_snd {S : List Nat} {m n : Nat} {ss es : List Int} {rs : List ByteArray} (hs : ss.length = n) (he : es.length = n) (hr : rs.length = n) (h : ∀ i, i < n → okE m ss es i) :
    ∀ k, k ≤ n → ((gacc S ((spansOf ss es rs n).take k)).2 : Int) = pvE es k := by
  intro k
  cases k with
  | zero => intro _; simp [gacc, pvE]
  | succ k =>
    intro hk
    have hx : (spansOf ss es rs n)[k]? = some ((spansOf ss es rs n)[k]'(by rw [spans_len]; omega)) := List.getElem?_eq_getElem _
    rw [gacc_take S hx, pvE_succ (spans_at hs he hr h k _ hx).2.1]
    rfl
theorem spans_wf {S : List Nat} {n : Nat} {ss es : List Int} {rs : List ByteArray} (hs : ss.length = n) (he : es.length = n) (hr : rs.length = n) (h : ∀ i, i < n → okE S.length ss es i) : gwf S (spansOf ss es rs n) := by
  intro k x hx
  have hk : k < n := by have := (List.getElem?_eq_some_iff.1 hx).1; rw [spans_len] at this; exact this
  obtain ⟨a1, a2, _⟩ := spans_at hs he hr h k x hx
  have h1 := h k hk _ _ a1 a2
  have h2 := spans_snd (S := S) hs he hr h k (by omega)
  omega
theorem gacc_len {S : List Nat} {L : List Span} {rs : List ByteArray} (hw : gwf S L) (hr : ∀ (i : Nat) (x : Span), L[i]? = some x → ∃ z, rs[i]? = some z ∧ bs z = x.2.2) : ∀ k, k ≤ L.length → (gacc S (L.take k)).1.length ≤ (gacc S (L.take k)).2 + szs (rs.take k) := by
  intro k
  induction k with
  | zero => intro _; simp [gacc]
  | succ k ih =>
    intro hk
    have hx : L[k]? = some (L[k]'(by omega)) := List.getElem?_eq_getElem _
    generalize L[k]'(by omega) = x at hx
    obtain ⟨h1, h2, h3⟩ := hw k x hx
    obtain ⟨z, hz, hzx⟩ := hr k x hx
    rw [gacc_take S hx, szs_snoc hz, gstep]
    simp only [List.length_append, List.length_take, List.length_drop]
    have h4 := ih (by omega)
    have h5 : z.size = x.2.2.length := by rw [← bs_length z, hzx]
    omega
theorem drop_take_snoc {S : List Nat} {p t x : Nat} (h : S[p + t]? = some x) : (S.drop p).take (t + 1) = (S.drop p).take t ++ [x] := take_snoc_some (by rw [List.getElem?_drop]; exact h)
end Go.Proofs.Ytmlhjgledpglhaa
