/-
  Plain: what a call of Next does to the markers and flags in the buffer.
-/
import Derived.Test.YtmlhjgledpglhaaEq
namespace Go.Proofs.Ytmlhjgledpglhaa
open Go.RowKit
set_option linter.unusedVariables false

/-- Only open markers, flags, and close markers that follow an open one. -/
def Okb (o c fl : Nat) (b : List Nat) : Prop := ∀ i x, b[i]? = some x → x = o ∨ x = fl ∨ (x = c ∧ 0 < i ∧ b[i - 1]? = some o)
/-- Behind k bytes handed out, ch of them with the change reported. -/
structure Mk (o c fl k ch pos : Nat) (hf : Bool) (b : List Nat) : Prop where
  ok : Okb o c fl b
  opens : b.count o = ch
  flags : 2 * b.count fl + k = pos
  len : b.length ≤ 2 * pos
  last : hf = true → b.getLast? = some o

theorem Okb.snoc {o c fl : Nat} {b : List Nat} (h : Okb o c fl b) {x : Nat} (hx : x = o ∨ x = fl ∨ (x = c ∧ b.getLast? = some o)) : Okb o c fl (b ++ [x]) := by
  intro i y hy
  rcases Nat.lt_or_ge i b.length with hi | hi
  · rw [List.getElem?_append_left hi] at hy
    rcases h i y hy with h1 | h1 | ⟨h1, h2, h3⟩
    · exact .inl h1
    · exact .inr (.inl h1)
    · exact .inr (.inr ⟨h1, h2, by rw [List.getElem?_append_left (by omega)]; exact h3⟩)
  · have hl := (List.getElem?_eq_some_iff.1 hy).1
    rw [List.length_append, List.length_singleton] at hl
    obtain rfl : i = b.length := by omega
    rw [List.getElem?_append_right (Nat.le_refl _), Nat.sub_self] at hy
    obtain rfl : x = y := by simpa using hy
    rcases hx with h1 | h1 | ⟨h1, h2⟩
    · exact .inl h1
    · exact .inr (.inl h1)
    · rw [List.getLast?_eq_getElem?] at h2
      have h3 := (List.getElem?_eq_some_iff.1 h2).1
      exact .inr (.inr ⟨h1, by omega, by rw [List.getElem?_append_left h3]; exact h2⟩)

theorem u8s_snoc (b : List Nat) (x : Nat) : u8s b ++ [Value.int .u8 (x : Int)] = u8s (b ++ [x]) := by unfold u8s; rw [List.map_append]; rfl

theorem nx_mark {fl o c : Nat} {S : List Nat} {pos : Nat} {hf : Bool} {buf : List Value} {x : Nat} {eos : Bool} {pos' : Nat} {hf' cf' : Bool} {buf' : List Value}
    (h : Nx fl [.int .u8 (o : Int)] [.int .u8 (c : Int)] S pos hf buf x eos pos' hf' cf' buf') (hoc : o ≠ c) (hof : o ≠ fl) (hcf : c ≠ fl) :
    ∀ (k ch : Nat) (b : List Nat), buf = u8s b → Mk o c fl k ch pos hf b → pos ≤ S.length → ∃ b', buf' = u8s b' ∧ pos' ≤ S.length ∧
      ((eos = true ∧ cf' = false ∧ pos' = S.length ∧ Okb o c fl b' ∧ b'.count o = ch ∧ 2 * b'.count fl + k = S.length ∧ b'.length ≤ 2 * S.length + 1) ∨
       (eos = false ∧ pos < pos' ∧ Mk o c fl (k + 1) (ch + if cf' then 1 else 0) pos' hf' b' ∧ (cf' = true → x = fl))) := by
  induction h with
  | eos pos hf buf he =>
    intro k ch b hb hm hp
    have h5 := hm.flags
    have h6 := hm.len
    cases hf
    · exact ⟨b, by simpa using hb, hp, .inl ⟨rfl, rfl, he, hm.ok, hm.opens, by omega, by omega⟩⟩
    · refine ⟨b ++ [c], ?_, hp, .inl ⟨rfl, rfl, he, hm.ok.snoc (.inr (.inr ⟨rfl, hm.last rfl⟩)), ?_, ?_, ?_⟩⟩
      · rw [hb, if_pos rfl, u8s_snoc]
      · rw [List.count_append, hm.opens]; simp [Ne.symm hoc]
      · rw [List.count_append]; simp [hcf]; omega
      · simp; omega
  | plain pos hf buf c' hc hne =>
    intro k ch b hb hm hp
    have := (List.getElem?_eq_some_iff.1 hc).1
    have h5 := hm.flags
    have h6 := hm.len
    exact ⟨b, hb, by omega, .inr ⟨rfl, by omega, ⟨hm.ok, by simpa using hm.opens, by omega, by omega, hm.last⟩, fun h => by cases h⟩⟩
  | last pos hf buf hc hl =>
    intro k ch b hb hm hp
    have h5 := hm.flags
    have h6 := hm.len
    exact ⟨b, hb, by omega, .inr ⟨rfl, by omega, ⟨hm.ok, by simpa using hm.opens, by omega, by omega, hm.last⟩, fun h => by cases h⟩⟩
  | mark pos hf buf d hc hd hne =>
    intro k ch b hb hm hp
    have := (List.getElem?_eq_some_iff.1 hc).1
    have h5 := hm.flags
    have h6 := hm.len
    cases hf
    · refine ⟨b ++ [o], ?_, by omega, .inr ⟨rfl, by omega, ⟨hm.ok.snoc (.inl rfl), ?_, ?_, ?_, fun _ => by simp⟩, fun _ => rfl⟩⟩
      · rw [hb]; simp [u8s_snoc]
      · rw [List.count_append, hm.opens]; simp
      · rw [List.count_append]; simp [hof]; omega
      · simp; omega
    · refine ⟨b ++ [c] ++ [o], ?_, by omega, .inr ⟨rfl, by omega, ⟨(hm.ok.snoc (.inr (.inr ⟨rfl, hm.last rfl⟩))).snoc (.inl rfl), ?_, ?_, ?_, fun _ => by simp⟩, fun _ => rfl⟩⟩
      · rw [hb, if_pos rfl, u8s_snoc, u8s_snoc]
      · rw [List.count_append, List.count_append, hm.opens]; simp [Ne.symm hoc]
      · rw [List.count_append, List.count_append]; simp [hcf, hof]; omega
      · simp; omega
  | pair pos hf buf x eos pos' hf' cf' buf' hc hd hn ih =>
    intro k ch b hb hm hp
    have hl := (List.getElem?_eq_some_iff.1 hd).1
    have h5 := hm.flags
    have h6 := hm.len
    have hm2 : Mk o c fl k ch (pos + 2) false (b ++ [fl]) := ⟨hm.ok.snoc (.inr (.inl rfl)), by rw [List.count_append, hm.opens]; simp [Ne.symm hof], by rw [List.count_append]; simp; omega, by simp; omega, fun h => by cases h⟩
    obtain ⟨b', h1, h2, h3⟩ := ih k ch (b ++ [fl]) (by rw [hb, u8s_snoc]) hm2 (by omega)
    refine ⟨b', h1, h2, ?_⟩
    rcases h3 with h3 | ⟨h3, h4, h7⟩
    · exact .inl h3
    · exact .inr ⟨h3, by omega, h7⟩
end Go.Proofs.Ytmlhjgledpglhaa
