/-
  What stays as it is: the store under calls that turn nothing of it, and a row of another block under an Add or a Pop.
-/
import Derived.Test.YtmcpjhkkdjhboaaModel
namespace Go.Proofs.Ytmcpjhkkdjhboaa
open Go.RowKit
set_option linter.unusedVariables false

theorem own_keep {w w' : World} {B g n cap : Nat} {e : TypeId} {xs : List Value} (h : w.ownsRow B e 1 (.slice (some ⟨g, 0, none⟩) n cap) n xs) (hb : Below w.heap.size w w') :
    w'.ownsRow B e 1 (.slice (some ⟨g, 0, none⟩) n cap) n xs :=
  h.kept (row := none) ⟨hb.os, hb.tape, hb.output, hb.size, fun k hk _ => hb.block k hk⟩ (.inr (by simp [Value.ownBlock]))

theorem Store.below {w w' : World} {B d : Nat} {S L : List Int} (h : Store w B d S L) (hb : Below w.heap.size w w') : Store w' B d S L := by
  obtain ⟨g1, c1, g2, c2, cs, ls, hB, hSL, hcl, hS, hL, hm, hblk, ho1, ho2⟩ := h
  exact ⟨g1, c1, g2, c2, cs, ls, hB, hSL, hcl, hS, hL, hm, hblk.below hb hblk.lt, own_keep ho1 hb, own_keep ho2 hb⟩

theorem Store.fp_lt {w : World} {B d b : Nat} {S L : List Int} (h : Store w B d S L) (hf : Fp w d b) : b < w.heap.size := by
  obtain ⟨g1, c1, g2, c2, cs, ls, hB, hSL, hcl, hS, hL, hm, hblk, ho1, ho2⟩ := h
  rcases hf with rfl | ⟨a, n, c, e, rfl⟩ | ⟨a, n, c, e, rfl⟩
  · exact hblk.lt
  · rw [hblk.cell] at e
    simp at e
    obtain ⟨rfl, _⟩ := e
    exact (ho1.lt g1 rfl).2
  · rw [hblk.cell] at e
    simp at e
    obtain ⟨rfl, _⟩ := e
    exact (ho2.lt g2 rfl).2

theorem Store.fp_below {w w' : World} {B d b : Nat} {S L : List Int} (h : Store w B d S L) (hb : Below w.heap.size w w') (hf : Fp w' d b) : Fp w d b := by
  have hd : d < w.heap.size := h.fp_lt (.inl rfl)
  have e : ∀ i, w'.cell? ⟨d, i, none⟩ = w.cell? ⟨d, i, none⟩ := fun i => hb.cell (by exact hd)
  unfold Fp at hf ⊢
  rwa [e, e] at hf

theorem Arg.far {w w' : World} {A : Option Addr} {n c d : Nat} {xs : List Value} (h : Arg w A n c xs) (hf : Far w w' d) (hn : ∀ a, A = some a → ¬ Fp w d a.block) : Arg w' A n c xs := by
  obtain ⟨h1, h2, h3, h4, h5⟩ := h
  refine ⟨h1, h2, h3, h4, fun hp => ?_⟩
  obtain ⟨b, off, e, hlt, hc⟩ := h5 hp
  refine ⟨b, off, e, Nat.lt_of_lt_of_le hlt hf.size, fun i u hu => ?_⟩
  rw [World.cell?_of_block (hf.kept b hlt (hn _ e))]
  exact hc i u hu

/-- A copy of what the store holds lies outside of the store's own blocks. -/
theorem Store.new_out {w w' : World} {B d : Nat} {A : Option Addr} {S L : List Int} (h : Store w B d S L) (hb : Below w.heap.size w w') (hA : ∀ a, A = some a → w.heap.size ≤ a.block) : ∀ a, A = some a → ¬ Fp w' d a.block := by
  intro a e hf
  have := h.fp_lt (h.fp_below hb hf)
  have := hA a e
  omega
/-- The left part of an argument. -/
theorem Arg.left {w : World} {b off n c m : Nat} {xs ys : List Value} (h : Arg w (some ⟨b, off, none⟩) n c xs) (hp : ys <+: xs) (hm : ys.length = m) : Arg w (some ⟨b, off, none⟩) m c ys := by
  obtain ⟨h1, h2, h3, h4, h5⟩ := h
  have hle := hp.length_le
  refine ⟨hm, by omega, h3, fun h => by simp at h, fun hp' => ?_⟩
  obtain ⟨b', off', e, hlt, hc⟩ := h5 (by omega)
  refine ⟨b', off', e, hlt, fun i u hu => hc i u ?_⟩
  obtain ⟨t, rfl⟩ := hp
  rw [List.getElem?_append_left (List.getElem?_eq_some_iff.1 hu).1]
  exact hu
theorem list_at (w : World) (d g n c k : Nat) (p0 : w.cell? ⟨d, 0, none⟩ = some (.slice (some ⟨g, 0, none⟩) n c)) (p2 : w.cell? ⟨d, 2, none⟩ = some (.int .i64 k)) (k1 : n ≤ c) (k2 : c ≤ 9223372036854775807) (hle : k ≤ n) :
    Calls Try.prog 21 #[.pointer (some ⟨d, 0, none⟩)] w fun e w' => e = .returned (.slice (some ⟨g, 0, none⟩) k c) ∧ ∃ q, w' = w.drewN q := by
  have i0 : (0 : Int) ≤ (k : Int) := by omega
  have i1 : (k : Int) ≤ (c : Int) := by omega
  go_enter Try.func21, Try.ntmps21
  go_wp2
  go_quiet (fail)
  go_wp2
  go_ret
  exact ⟨rfl, _, rfl⟩
theorem posList_at (w : World) (d g n c k : Nat) (p0 : w.cell? ⟨d, 1, none⟩ = some (.slice (some ⟨g, 0, none⟩) n c)) (p2 : w.cell? ⟨d, 2, none⟩ = some (.int .i64 k)) (k1 : n ≤ c) (k2 : c ≤ 9223372036854775807) (hle : k ≤ n) :
    Calls Try.prog 25 #[.pointer (some ⟨d, 0, none⟩)] w fun e w' => e = .returned (.slice (some ⟨g, 0, none⟩) k c) ∧ ∃ q, w' = w.drewN q := by
  have i0 : (0 : Int) ≤ (k : Int) := by omega
  have i1 : (k : Int) ≤ (c : Int) := by omega
  go_enter Try.func25, Try.ntmps25
  go_wp2
  go_quiet (fail)
  go_wp2
  go_ret
  exact ⟨rfl, _, rfl⟩
theorem list_ex {w : World} {B d : Nat} {S L : List Int} (h : Store w B d S L) : ∃ g c, Arg w (some ⟨g, 0, none⟩) S.length c (S.map (Value.int .u32)) ∧
    ∀ q, Calls Try.prog 21 #[.pointer (some ⟨d, 0, none⟩)] (w.drewN q) fun e w' => e = .returned (.slice (some ⟨g, 0, none⟩) S.length c) ∧ ∃ m, w' = (w.drewN q).drewN m := by
  obtain ⟨g1, c1, g2, c2, cs, ls, hB, hSL, hcl, hS, hL, hm, hblk, ho1, ho2⟩ := h
  have hle := hS.length_le
  obtain ⟨k1, k2⟩ := cap_of_own ho1
  refine ⟨_, _, arg_own (m := S.length) ho1 (hS.map _) (by simp), fun q => list_at _ d _ cs.length _ S.length ?_ ?_ k1 k2 (by omega)⟩
  · exact (hblk.cell 0).trans rfl
  · exact (hblk.cell 2).trans (by rw [show S.length = S.length from rfl]; rfl)
theorem posList_ex {w : World} {B d : Nat} {S L : List Int} (h : Store w B d S L) : ∃ g c, Arg w (some ⟨g, 0, none⟩) L.length c (L.map (Value.int .i64)) ∧
    ∀ q, Calls Try.prog 25 #[.pointer (some ⟨d, 0, none⟩)] (w.drewN q) fun e w' => e = .returned (.slice (some ⟨g, 0, none⟩) L.length c) ∧ ∃ m, w' = (w.drewN q).drewN m := by
  obtain ⟨g1, c1, g2, c2, cs, ls, hB, hSL, hcl, hS, hL, hm, hblk, ho1, ho2⟩ := h
  have hle := hL.length_le
  obtain ⟨k1, k2⟩ := cap_of_own ho2
  refine ⟨_, _, arg_own (m := L.length) ho2 (hL.map _) (by simp), fun q => posList_at _ d _ cs.length _ L.length ?_ ?_ k1 k2 (by omega)⟩
  · exact (hblk.cell 1).trans rfl
  · exact (hblk.cell 2).trans (by rw [← hSL]; rfl)
theorem snoc_back {S : List Int} {m : Nat} {x : Int} (hl : S.length = m + 1) (hx : S[m]? = some x) : S.dropLast ++ [x] = S := by
  have hne : S ≠ [] := by intro e; subst e; simp at hl
  have h := List.dropLast_concat_getLast hne
  rw [List.getLast_eq_getElem] at h
  have e : S[S.length - 1]'(by omega) = x := by
    rw [List.getElem?_eq_some_iff] at hx
    obtain ⟨_, h'⟩ := hx
    rw [← h']
    congr 1
    omega
  rw [e] at h
  exact h
theorem Store.grown {w w' : World} {B d g : Nat} {S L : List Int} (h : Store w B d S L) (hg : w.grownBy w' (some g)) (hn : ¬ Fp w d g) : Store w' B d S L ∧ ∀ b, Fp w' d b → Fp w d b := by
  have hd : d ≠ g := fun e => hn (.inl e.symm)
  have hlt : d < w.heap.size := h.fp_lt (.inl rfl)
  have e : ∀ i, w'.cell? ⟨d, i, none⟩ = w.cell? ⟨d, i, none⟩ := fun i => World.cell?_of_block (hg.block d hlt (by simpa using hd))
  refine ⟨?_, fun b hf => by unfold Fp at hf ⊢; rwa [e, e] at hf⟩
  obtain ⟨g1, c1, g2, c2, cs, ls, hB, hSL, hcl, hS, hL, hm, hblk, ho1, ho2⟩ := h
  refine ⟨g1, c1, g2, c2, cs, ls, hB, hSL, hcl, hS, hL, hm, hblk.grown hg (by simpa using hd), ho1.kept hg (.inr ?_), ho2.kept hg (.inr ?_)⟩
  · intro e'
    have : g1 = g := by simpa [Value.ownBlock] using e'
    subst this
    exact hn (.inr (.inl ⟨_, _, _, (hblk.cell 0).trans rfl, rfl⟩))
  · intro e'
    have : g2 = g := by simpa [Value.ownBlock] using e'
    subst this
    exact hn (.inr (.inr ⟨_, _, _, (hblk.cell 1).trans rfl, rfl⟩))
theorem own_far {w w' : World} {B d g n cap : Nat} {e : TypeId} {xs : List Value} (h : w.ownsRow B e 1 (.slice (some ⟨g, 0, none⟩) n cap) n xs) (hf : Far w w' d) (hn : ¬ Fp w d g) :
    w'.ownsRow B e 1 (.slice (some ⟨g, 0, none⟩) n cap) n xs := by
  have hg := (h.lt g rfl).2
  refine ⟨h.1, ?_⟩
  rcases h.2 with ⟨h', _⟩ | ⟨g', cap', cur, h', hb, hgg, rest⟩
  · simp at h'
  · simp only [Value.slice.injEq, Option.some.injEq, Addr.mk.injEq, and_true, true_and] at h'
    obtain ⟨rfl, rfl⟩ := h'
    exact .inr ⟨g, cap, cur, rfl, hb, (hf.kept g hg hn).trans hgg, rest⟩
theorem stays_out {w w' : World} {d g : Nat} (hf : Far w w' d) (hg : g < w.heap.size) (hn : ¬ Fp w d g) : ¬ Fp w' d g := fun h => by
  rcases hf.grow g h with h | h
  · exact hn h
  · omega
/-- A call that turns nothing, behind draws that have been joined. -/
theorem quiet_more {P : Program} {f : FuncId} {args : Array Value} {w : World} {a n : Nat} {v : Value}
    (h : Calls P f args (w.drewN (a + n)) fun e w' => e = .returned v ∧ w.drewN (a + n) = w') : Calls P f args (w.drewN (a + n)) fun e w'' => e = .returned v ∧ ∃ m, w'' = w.drewN (a + m) :=
  h.mono fun _ _ ⟨he, hm⟩ => ⟨he, n, hm.symm⟩
end Go.Proofs.Ytmcpjhkkdjhboaa
