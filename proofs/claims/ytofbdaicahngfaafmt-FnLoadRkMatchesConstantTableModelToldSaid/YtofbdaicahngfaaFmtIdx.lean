/-
  The plain model of a table of different strings, and which blocks a context uses.
-/
import Derived.Test.YtofbdaicahngfaaFmtReads
namespace Go.Proofs.YtofbdaicahngfaaFmt
open Go.RowKit
set_option linter.unusedVariables false

/-- Where s stands first in a list; its length if nowhere. -/
def idx : List ByteArray → ByteArray → Nat
  | [], _ => 0
  | x :: l, s => if x = s then 0 else idx l s + 1
/-- The list with s at its end, if s was not in it. -/
def ins (cs : List ByteArray) (s : ByteArray) : List ByteArray := if idx cs s < cs.length then cs else cs ++ [s]

theorem idx_le (cs : List ByteArray) (s : ByteArray) : idx cs s ≤ cs.length := by
  induction cs with
  | nil => exact Nat.le_refl _
  | cons x l ih =>
    unfold idx
    split <;> simp <;> omega
theorem idx_at {cs : List ByteArray} {s : ByteArray} {k : Nat} (h : k ≤ idx cs s) (hk : cs[k]? = some s) : idx cs s = k := by
  induction cs generalizing k with
  | nil => simp at hk
  | cons x l ih =>
    unfold idx at h ⊢
    cases k with
    | zero =>
      obtain rfl : x = s := by simpa using hk
      simp
    | succ k =>
      by_cases hx : x = s
      · rw [if_pos hx] at h; omega
      · rw [if_neg hx] at h ⊢
        rw [ih (k := k) (by omega) (by simpa using hk)]
theorem idx_step {cs : List ByteArray} {s z : ByteArray} {k : Nat} (h : k ≤ idx cs s) (hk : cs[k]? = some z) (hz : z ≠ s) : k + 1 ≤ idx cs s := by
  induction cs generalizing k with
  | nil => simp at hk
  | cons x l ih =>
    unfold idx at h ⊢
    cases k with
    | zero =>
      obtain rfl : x = z := by simpa using hk
      rw [if_neg hz]; omega
    | succ k =>
      by_cases hx : x = s
      · rw [if_pos hx] at h; omega
      · rw [if_neg hx] at h ⊢
        have := ih (k := k) (by omega) (by simpa using hk)
        omega
theorem idx_get {cs : List ByteArray} {s : ByteArray} (h : idx cs s < cs.length) : cs[idx cs s]? = some s := by
  induction cs with
  | nil => simp at h
  | cons x l ih =>
    unfold idx at h ⊢
    by_cases hx : x = s
    · rw [if_pos hx]; simp [hx]
    · rw [if_neg hx] at h ⊢
      simp at h
      simpa using ih h
theorem idx_snoc {cs : List ByteArray} {s : ByteArray} (h : ¬ idx cs s < cs.length) : idx (cs ++ [s]) s = cs.length := by
  induction cs with
  | nil => simp [idx]
  | cons x l ih =>
    unfold idx at h
    by_cases hx : x = s
    · rw [if_pos hx] at h; simp at h
    · rw [if_neg hx] at h
      show idx (x :: (l ++ [s])) s = _
      unfold idx
      rw [if_neg hx, ih (by simp at h; omega)]
      simp
theorem ins_get (cs : List ByteArray) (s : ByteArray) : (ins cs s)[idx cs s]? = some s := by
  unfold ins
  split
  · rename_i h; exact idx_get h
  · rename_i h
    have := idx_le cs s
    rw [show idx cs s = cs.length by omega]
    simp
theorem ins_len (cs : List ByteArray) (s : ByteArray) : cs.length ≤ (ins cs s).length ∧ (ins cs s).length ≤ cs.length + 1 := by
  unfold ins
  split <;> simp
theorem ins_idx (cs : List ByteArray) (s : ByteArray) : idx (ins cs s) s = idx cs s ∧ idx cs s < (ins cs s).length := by
  unfold ins
  split
  · rename_i h; exact ⟨rfl, h⟩
  · rename_i h
    have := idx_le cs s
    rw [idx_snoc h]
    simp
    omega
theorem ins_ins (cs : List ByteArray) (s : ByteArray) : ins (ins cs s) s = ins cs s := by
  have h := ins_idx cs s
  rw [ins, h.1, if_pos h.2]

/-- The blocks that the context at f uses. -/
def Uses (w : World) (f b : Nat) : Prop :=
  b = f ∨ (∃ p, w.cell? ⟨f, 0, none⟩ = some (.pointer (some ⟨p, 0, none⟩)) ∧ (b = p ∨ ∃ g n c, w.cell? ⟨p, 8, none⟩ = some (.slice (some ⟨g, 0, none⟩) n c) ∧ b = g)) ∨
    (∃ d, w.cell? ⟨f, 1, none⟩ = some (.pointer (some ⟨d, 0, none⟩)) ∧ Fp w d b)

theorem own_same {w w' : World} {B e size n g c : Nat} {xs : List Value} (h : w.ownsRow B e size (.slice (some ⟨g, 0, none⟩) n c) n xs) (hk : w'.heap[g]? = w.heap[g]?) : w'.ownsRow B e size (.slice (some ⟨g, 0, none⟩) n c) n xs := by
  rcases h with ⟨h1, ⟨h2, _⟩ | ⟨g', cap, cur, h2, h3, h4, h5⟩⟩
  · cases h2
  · simp only [Value.slice.injEq, Option.some.injEq, Addr.mk.injEq, and_true, true_and] at h2
    obtain ⟨rfl, rfl⟩ := h2
    exact ⟨h1, .inr ⟨g, c, cur, rfl, h3, hk.trans h4, h5⟩⟩
theorem own_heap {w : World} {B e size n g c : Nat} {xs : List Value} (h : w.ownsRow B e size (.slice (some ⟨g, 0, none⟩) n c) n xs) : ∃ cur, w.heap[g]? = some (.cells cur e (0, 0)) ∧ B ≤ g := by
  rcases h with ⟨h1, ⟨h2, _⟩ | ⟨g', cap, cur, h2, h3, h4, h5⟩⟩
  · cases h2
  · simp only [Value.slice.injEq, Option.some.injEq, Addr.mk.injEq, and_true, true_and] at h2
    obtain ⟨rfl, rfl⟩ := h2
    exact ⟨cur, h4, h3⟩
theorem cell_same {w w' : World} {b i : Nat} (hk : w'.heap[b]? = w.heap[b]?) : w'.cell? ⟨b, i, none⟩ = w.cell? ⟨b, i, none⟩ := World.cell?_of_block hk

/-- A context stands as it is in whatever world has its blocks. -/
theorem FC.same {w w' : World} {B f : Nat} {cs : List ByteArray} {S L : List Int} (h : FC w B f cs S L) (hk : ∀ b, Uses w f b → w'.heap[b]? = w.heap[b]?) : FC w' B f cs S L ∧ ∀ b, Uses w' f b → Uses w f b := by
  obtain ⟨pb, cb, C, hB, hf, c0, c1, ⟨g, c, C', hB', hm, hp, c8, ho⟩, ⟨g1, n1, g2, n2, ds, ls, hB2, hSL, hcl, hS, hL, hm2, hblk, ho1, ho2⟩⟩ := h
  have x0 : w.cell? ⟨f, 0, none⟩ = some (.pointer (some ⟨pb, 0, none⟩)) := by rw [hf.cell]; exact c0
  have x1 : w.cell? ⟨f, 1, none⟩ = some (.pointer (some ⟨cb, 0, none⟩)) := by rw [hf.cell]; exact c1
  have x8 : w.cell? ⟨pb, 8, none⟩ = some (.slice (some ⟨g, 0, none⟩) cs.length c) := by rw [hp.cell]; exact c8
  have y0 : w.cell? ⟨cb, 0, none⟩ = some (.slice (some ⟨g1, 0, none⟩) ds.length n1) := by rw [hblk.cell]; rfl
  have y1 : w.cell? ⟨cb, 1, none⟩ = some (.slice (some ⟨g2, 0, none⟩) ds.length n2) := by rw [hblk.cell]; rfl
  have kf := hk f (.inl rfl)
  have kp := hk pb (.inr (.inl ⟨pb, x0, .inl rfl⟩))
  have kg := hk g (.inr (.inl ⟨pb, x0, .inr ⟨g, _, _, x8, rfl⟩⟩))
  have kc := hk cb (.inr (.inr ⟨cb, x1, .inl rfl⟩))
  have k1 := hk g1 (.inr (.inr ⟨cb, x1, .inr (.inl ⟨_, _, _, y0, rfl⟩)⟩))
  have k2 := hk g2 (.inr (.inr ⟨cb, x1, .inr (.inr ⟨_, _, _, y1, rfl⟩)⟩))
  refine ⟨⟨pb, cb, C, hB, kf.trans hf, c0, c1, ⟨g, c, C', hB', hm, kp.trans hp, c8, own_same ho kg⟩, ⟨g1, n1, g2, n2, ds, ls, hB2, hSL, hcl, hS, hL, hm2, kc.trans hblk, own_same ho1 k1, own_same ho2 k2⟩⟩, fun b hb => ?_⟩
  rcases hb with rfl | ⟨p, e, hb⟩ | ⟨d, e, hb⟩
  · exact .inl rfl
  · rw [cell_same kf] at e
    obtain rfl : pb = p := by rw [x0] at e; simpa using e
    refine .inr (.inl ⟨pb, x0, ?_⟩)
    rcases hb with rfl | ⟨g', n, c', e', rfl⟩
    · exact .inl rfl
    · rw [cell_same kp] at e'
      exact .inr ⟨_, n, c', e', rfl⟩
  · rw [cell_same kf] at e
    obtain rfl : cb = d := by rw [x1] at e; simpa using e
    refine .inr (.inr ⟨cb, x1, ?_⟩)
    rcases hb with rfl | ⟨a, n, c, e', rfl⟩ | ⟨a, n, c, e', rfl⟩
    · exact .inl rfl
    · rw [cell_same kc] at e'
      exact .inr (.inl ⟨a, n, c, e', rfl⟩)
    · rw [cell_same kc] at e'
      exact .inr (.inr ⟨a, n, c, e', rfl⟩)

/-- What a context uses is of these types, and lies from block B on. -/
theorem FC.uses {w : World} {B f b : Nat} {cs : List ByteArray} {S L : List Int} (h : FC w B f cs S L) (hb : Uses w f b) :
    B ≤ b ∧ ∃ cur t, w.heap[b]? = some (.cells cur t (0, 0)) ∧ (t = 50 ∨ t = 68 ∨ t = 77 ∨ t = 41 ∨ t = 31 ∨ t = 3) := by
  obtain ⟨pb, cb, C, hB, hf, c0, c1, ⟨g, c, C', hB', hm, hp, c8, ho⟩, ⟨g1, n1, g2, n2, ds, ls, hB2, hSL, hcl, hS, hL, hm2, hblk, ho1, ho2⟩⟩ := h
  have x0 : w.cell? ⟨f, 0, none⟩ = some (.pointer (some ⟨pb, 0, none⟩)) := by rw [hf.cell]; exact c0
  have x1 : w.cell? ⟨f, 1, none⟩ = some (.pointer (some ⟨cb, 0, none⟩)) := by rw [hf.cell]; exact c1
  have x8 : w.cell? ⟨pb, 8, none⟩ = some (.slice (some ⟨g, 0, none⟩) cs.length c) := by rw [hp.cell]; exact c8
  have y0 : w.cell? ⟨cb, 0, none⟩ = some (.slice (some ⟨g1, 0, none⟩) ds.length n1) := by rw [hblk.cell]; rfl
  have y1 : w.cell? ⟨cb, 1, none⟩ = some (.slice (some ⟨g2, 0, none⟩) ds.length n2) := by rw [hblk.cell]; rfl
  rcases hb with rfl | ⟨p, e, hb⟩ | ⟨d, e, hb⟩
  · exact ⟨hB, _, _, hf, by simp⟩
  · obtain rfl : pb = p := by rw [x0] at e; simpa using e
    rcases hb with rfl | ⟨g', n, c', e', rfl⟩
    · exact ⟨hB', _, _, hp, by simp⟩
    · rw [x8] at e'
      obtain rfl : g = b := by simp at e'; exact e'.1
      obtain ⟨cur, h1, h2⟩ := own_heap ho
      exact ⟨h2, _, _, h1, by simp⟩
  · obtain rfl : cb = d := by rw [x1] at e; simpa using e
    rcases hb with rfl | ⟨a, n, c, e', rfl⟩ | ⟨a, n, c, e', rfl⟩
    · exact ⟨hB2, _, _, hblk, by simp⟩
    · rw [y0] at e'
      obtain rfl : ⟨g1, 0, none⟩ = a := by simp at e'; exact e'.1
      obtain ⟨cur, h1, h2⟩ := own_heap ho1
      exact ⟨h2, _, _, h1, by simp⟩
    · rw [y1] at e'
      obtain rfl : ⟨g2, 0, none⟩ = a := by simp at e'; exact e'.1
      obtain ⟨cur, h1, h2⟩ := own_heap ho2
      exact ⟨h2, _, _, h1, by simp⟩

/-- From w to w' only blocks of the context, block r and new ones have turned. -/
structure FarC (w w' : World) (f r : Nat) : Prop where
  size : w.heap.size ≤ w'.heap.size
  kept : ∀ b, b < w.heap.size → ¬ Uses w f b → b ≠ r → w'.heap[b]? = w.heap[b]?
  grow : ∀ b, Uses w' f b → Uses w f b ∨ w.heap.size ≤ b

theorem FarC.refl (w : World) (f r : Nat) : FarC w w f r := ⟨Nat.le_refl _, fun _ _ _ _ => rfl, fun _ h => .inl h⟩
theorem FarC.trans {a b c : World} {f r : Nat} (h : FarC a b f r) (k : FarC b c f r) : FarC a c f r := by
  refine ⟨Nat.le_trans h.size k.size, fun i hi hn hr => ?_, fun i hf => ?_⟩
  · rw [k.kept i (Nat.lt_of_lt_of_le hi h.size) (fun hf => ?_) hr, h.kept i hi hn hr]
    rcases h.grow i hf with h' | h'
    · exact hn h'
    · omega
  · rcases k.grow i hf with h' | h'
    · exact h.grow i h'
    · have := h.size
      exact .inr (by omega)
theorem FC.farC_same {w w' : World} {B f r : Nat} {cs : List ByteArray} {S L : List Int} (h : FC w B f cs S L) (hs : w.heap.size ≤ w'.heap.size) (hk : ∀ b, b < w.heap.size → b ≠ r → w'.heap[b]? = w.heap[b]?) (hr : ¬ Uses w f r) :
    FC w' B f cs S L ∧ FarC w w' f r := by
  have := h.same (w' := w') fun b hb => hk b (by obtain ⟨_, cur, t, e, _⟩ := h.uses hb; exact (Array.getElem?_eq_some_iff.1 e).1) (fun e => hr (e ▸ hb))
  exact ⟨this.1, hs, fun b hb _ hn => hk b hb hn, fun b hb => .inl (this.2 b hb)⟩
theorem FC.farC_below {w w' : World} {B f r : Nat} {cs : List ByteArray} {S L : List Int} (h : FC w B f cs S L) (hb : Below w.heap.size w w') : FC w' B f cs S L ∧ FarC w w' f r := by
  have := h.same (w' := w') fun b hu => hb.block b (by obtain ⟨_, cur, t, e, _⟩ := h.uses hu; exact (Array.getElem?_eq_some_iff.1 e).1)
  exact ⟨this.1, hb.size, fun b hlt _ _ => hb.block b hlt, fun b hu => .inl (this.2 b hu)⟩
theorem FarC.out {w w' : World} {f r b : Nat} (h : FarC w w' f r) (hb : b < w.heap.size) (hn : ¬ Uses w f b) : ¬ Uses w' f b := fun hu => by
  rcases h.grow b hu with h' | h'
  · exact hn h'
  · omega
end Go.Proofs.YtofbdaicahngfaaFmt
