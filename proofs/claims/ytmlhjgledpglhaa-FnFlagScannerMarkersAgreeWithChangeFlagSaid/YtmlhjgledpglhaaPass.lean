/-
  The walk through the law that Next passes bytes through and unescapes doubled flags.
-/
import Derived.Test.YtmlhjgledpglhaaEq
namespace Go.Proofs.Ytmlhjgledpglhaa
open Go.RowKit
set_option linter.unusedVariables false

theorem newScan_c (fl : Int) (st en s : ByteArray) (w : World) : Calls Try.prog 17 #[.int .u8 fl, .string st, .string en, .string s] w fun e w' =>
    ∃ f, e = .returned (.pointer (some ⟨f, 0, none⟩)) ∧ Below w.heap.size w w' ∧ f < w'.heap.size ∧ w.heap.size ≤ f ∧ ∃ g cap, Blk w' f 31 (scanRow fl st en s (.slice (some ⟨g, 0, none⟩) 0 cap) 0 false false) ∧ w'.ownsRow w.heap.size 5 1 (.slice (some ⟨g, 0, none⟩) 0 cap) 0 [] := by
  go_enter Try.func17, Try.ntmps17
  go_wp2
  go_ret
  refine ⟨w.heap.size + 1, rfl, ?_, by simp, by omega, w.heap.size, 0, Blk.new_at _ _ _ (by simp), ?_⟩
  · repeat (first | exact Below.refl _ _ | refine Below.alloc ?_ (by simp <;> omega) _)
  · have h : madeCells #[Value.int .u8 0] 0 = #[] := by first | rfl | simp [madeCells]
    have := own_made (base := w.heap.size) w 5 (.int .u8 0) 0 rfl (Nat.le_refl _) (by unfold maxLen; omega)
    rw [h] at this
    exact this.alloc _

/-- The guest's block may turn (or another take its place): the scanner stands. -/
theorem Scan.turn {w w' : World} {B : Nat} {G : Nat × Option Obj} {f : Nat} {fl : Int} {st en s : ByteArray} {buf : List Value} {pos : Nat} {hf cf : Bool} {g' : Nat} (h : Scan w B G f fl st en s buf pos hf cf) (hg : w.grownBy w' (some G.1)) (h1 : g' = G.1 ∨ w.heap.size ≤ g') (h2 : g' < w'.heap.size) :
    Scan w' B (g', w'.heap[g']?) f fl st en s buf pos hf cf := by
  obtain ⟨⟨g, cap, hblk, hown, hgg⟩, hB, hG1, hG2, hG3⟩ := h
  have hgl := (hown.lt g rfl).2
  have hfl := hblk.lt
  refine ⟨⟨g, cap, hblk.grown hg (by simpa using Ne.symm hG2), hown.kept hg (.inr (by simpa [Value.ownBlock] using Ne.symm hgg)), ?_⟩, hB, rfl, ?_, h2⟩
  · show g' ≠ g
    rcases h1 with rfl | h1
    · exact hgg
    · omega
  · show g' ≠ f
    rcases h1 with rfl | h1
    · exact hG2
    · omega
/-- A row on the guest's block stands while the scanner works. -/
theorem own_guest {w w' : World} {B g n cap : Nat} {e : TypeId} {xs : List Value} (h : w.ownsRow B e 1 (.slice (some ⟨g, 0, none⟩) n cap) n xs) (hg : w'.heap[g]? = w.heap[g]?) : w'.ownsRow B e 1 (.slice (some ⟨g, 0, none⟩) n cap) n xs := by
  refine ⟨h.1, ?_⟩
  rcases h.2 with ⟨h', _⟩ | ⟨g', cap', cur, h', hb, hgg, rest⟩
  · simp at h'
  · simp only [Value.slice.injEq, Option.some.injEq, Addr.mk.injEq, and_true, true_and] at h'
    obtain ⟨rfl, rfl⟩ := h'
    exact .inr ⟨g, cap, cur, rfl, hb, hg.trans hgg, rest⟩
end Go.Proofs.Ytmlhjgledpglhaa
