/-
  Plain: the greedy unescape of a list of bytes, and what one call of Next takes off it.
-/
import Derived.Test.YtmlhjgledpglhaaNext
namespace Go.Proofs.Ytmlhjgledpglhaa
open Go.RowKit
set_option linter.unusedVariables false

/-- From the left: a doubled flag is an escape and yields nothing; all else stands. The list that is left, and the number of escapes. -/
def une (fl : Nat) : List Nat → List Nat × Nat
  | [] => ([], 0)
  | [c] => ([c], 0)
  | c :: d :: r => if c = fl ∧ d = fl then ((une fl r).1, (une fl r).2 + 1) else (c :: (une fl (d :: r)).1, (une fl (d :: r)).2)

theorem une_end {fl : Nat} {S : List Nat} {pos : Nat} (h : S.length ≤ pos) : une fl (S.drop pos) = ([], 0) := by
  rw [List.drop_eq_nil_of_le h, une]
theorem une_pair {fl : Nat} {S : List Nat} {pos : Nat} (h1 : S[pos]? = some fl) (h2 : S[pos + 1]? = some fl) : une fl (S.drop pos) = ((une fl (S.drop (pos + 2))).1, (une fl (S.drop (pos + 2))).2 + 1) := by
  obtain ⟨a1, a2⟩ := List.getElem?_eq_some_iff.1 h1
  obtain ⟨b1, b2⟩ := List.getElem?_eq_some_iff.1 h2
  rw [List.drop_eq_getElem_cons a1, List.drop_eq_getElem_cons b1, a2, b2, une, if_pos ⟨rfl, rfl⟩]
theorem une_one {fl : Nat} {S : List Nat} {pos c : Nat} (h1 : S[pos]? = some c) (h2 : ¬ (c = fl ∧ S[pos + 1]? = some fl)) : une fl (S.drop pos) = (c :: (une fl (S.drop (pos + 1))).1, (une fl (S.drop (pos + 1))).2) := by
  obtain ⟨a1, a2⟩ := List.getElem?_eq_some_iff.1 h1
  rw [List.drop_eq_getElem_cons a1, a2]
  rcases Nat.lt_or_ge (pos + 1) S.length with hl | hl
  · rw [List.drop_eq_getElem_cons hl, une, if_neg]
    intro h
    exact h2 ⟨h.1, by rw [List.getElem?_eq_getElem hl, h.2]⟩
  · rw [List.drop_eq_nil_of_le hl, une, une]

theorem une_le {fl : Nat} : ∀ S : List Nat, (une fl S).2 ≤ S.length
  | [] => by simp [une]
  | [c] => by simp [une]
  | c :: d :: r => by
    rw [une]
    split
    · have := une_le (fl := fl) r
      simp
      omega
    · have := une_le (fl := fl) (d :: r)
      simp at this ⊢
      omega

/-- What one call takes, where no marks are given: q escapes, and at most one byte. -/
theorem nx_une {fl : Nat} {S : List Nat} {pos : Nat} {hf : Bool} {buf : List Value} {c : Nat} {eos : Bool} {pos' : Nat} {hf' cf' : Bool} {buf' : List Value} (h : Nx fl [] [] S pos hf buf c eos pos' hf' cf' buf') (hp : pos ≤ S.length) :
    ∃ q, buf' = buf ++ List.replicate q (.int .u8 fl) ∧ pos' ≤ S.length ∧
      ((eos = true ∧ pos' = S.length ∧ une fl (S.drop pos) = ([], q)) ∨
       (eos = false ∧ pos < pos' ∧ une fl (S.drop pos) = (c :: (une fl (S.drop pos')).1, q + (une fl (S.drop pos')).2))) := by
  induction h with
  | eos pos hf buf he =>
    refine ⟨0, by cases hf <;> simp, hp, .inl ⟨rfl, he, une_end (by omega)⟩⟩
  | plain pos hf buf c hc hne =>
    have := (List.getElem?_eq_some_iff.1 hc).1
    refine ⟨0, by simp, by omega, .inr ⟨rfl, by omega, ?_⟩⟩
    rw [une_one hc (fun h => hne h.1)]
    simp
  | last pos hf buf hc hl =>
    refine ⟨0, by simp, by omega, .inr ⟨rfl, by omega, ?_⟩⟩
    rw [une_one hc (fun h => by rw [List.getElem?_eq_none (by omega)] at h; cases h.2)]
    simp
  | mark pos hf buf d hc hd hne =>
    have := (List.getElem?_eq_some_iff.1 hc).1
    refine ⟨0, by cases hf <;> simp, by omega, .inr ⟨rfl, by omega, ?_⟩⟩
    rw [une_one hc (fun h => hne (by rw [hd] at h; exact Option.some.inj h.2))]
    simp
  | pair pos hf buf c eos pos' hf' cf' buf' hc hd hn ih =>
    have hl := (List.getElem?_eq_some_iff.1 hd).1
    obtain ⟨q, hb, hp', hr⟩ := ih (by omega)
    refine ⟨q + 1, ?_, hp', ?_⟩
    · rw [hb, List.append_assoc, List.replicate_succ]; rfl
    · rw [une_pair hc hd]
      rcases hr with ⟨h1, h2, h3⟩ | ⟨h1, h2, h3⟩
      · exact .inl ⟨h1, h2, by rw [h3]⟩
      · refine .inr ⟨h1, by omega, ?_⟩
        rw [h3]
        simp
        omega
end Go.Proofs.Ytmlhjgledpglhaa
