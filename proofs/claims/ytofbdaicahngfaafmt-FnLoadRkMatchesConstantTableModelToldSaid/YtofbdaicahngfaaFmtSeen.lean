/-
  What the law's own row of seen strings needs: it lies apart from the context.
-/
import Derived.Test.YtofbdaicahngfaaFmtTable
namespace Go.Proofs.YtofbdaicahngfaaFmt
open Go.RowKit
set_option linter.unusedVariables false

def QD (w wi : World) : Prop := ∃ q, wi = w.drewN q
theorem QD.refl (w : World) : QD w w := ⟨0, rfl⟩
theorem QD.step {w wi : World} (h : QD w wi) (n : Nat) : QD w (wi.drewN n) := by
  obtain ⟨q, rfl⟩ := h
  exact ⟨q + n, by simp [World.drewN, Nat.add_assoc]⟩
theorem QD.drew {w wi : World} (h : QD w wi) : QD w wi.drew := h.step 1

theorem Loaded.self {a b : World} {B f rb : Nat} {cs : List ByteArray} {S : List Int} {r : Int} (h : Loaded a b B f rb cs S r) : Loaded b b B f rb cs S r := ⟨h.ctx, h.reg, Below.refl _ _, FarC.refl _ _ _, h.out⟩
theorem Loaded.qd {a wi : World} {B f rb : Nat} {cs : List ByteArray} {S : List Int} {r : Int} (h : Loaded a a B f rb cs S r) (k : QD a wi) : Loaded wi wi B f rb cs S r := by
  obtain ⟨q, rfl⟩ := k
  exact (h.drewN q).self
theorem own_qd {w wi : World} {B e size n : Nat} {v : Value} {xs : List Value} (h : w.ownsRow B e size v n xs) (k : QD w wi) : wi.ownsRow B e size v n xs := by
  obtain ⟨q, rfl⟩ := k
  exact h
theorem below_qd {B : Nat} {a w wi : World} (h : Below B a w) (k : QD w wi) : Below B a wi := by
  obtain ⟨q, rfl⟩ := k
  exact below_drewN h q
theorem cell_qd {w wi : World} {p : Addr} (k : QD w wi) : wi.cell? p = w.cell? p := by
  obtain ⟨q, rfl⟩ := k
  rfl

/-- A row of strings is no part of a context, and not its register. -/
theorem seen_out {w : World} {B B' f rb n g c : Nat} {cs : List ByteArray} {S : List Int} {r : Int} {xs : List Value} (h : Loaded w w B f rb cs S r) (ho : w.ownsRow B' 9 1 (.slice (some ⟨g, 0, none⟩) n c) n xs) : ¬ Uses w f g ∧ g ≠ rb ∧ g < w.heap.size := by
  obtain ⟨L, hc⟩ := h.ctx
  obtain ⟨cur, hg, _⟩ := own_heap ho
  exact ⟨hc.not_uses hg (by decide), Blk.ne_ (t := 9) hg h.reg (by decide), (Array.getElem?_eq_some_iff.1 hg).1⟩
theorem seen_kept {w w' : World} {B B' f rb n g c : Nat} {cs cs' : List ByteArray} {S S' : List Int} {r r' : Int} {xs : List Value} (h : Loaded w w B f rb cs S r) (k : Loaded w w' B f rb cs' S' r') (ho : w.ownsRow B' 9 1 (.slice (some ⟨g, 0, none⟩) n c) n xs) : w'.ownsRow B' 9 1 (.slice (some ⟨g, 0, none⟩) n c) n xs := by
  obtain ⟨h1, h2, h3⟩ := seen_out h ho
  exact own_same ho (k.far.kept g h3 h1 h2)
theorem Loaded.grown {w w1 : World} {B B' f rb n g c : Nat} {cs : List ByteArray} {S : List Int} {r : Int} {xs : List Value} {o : Obj} (h : Loaded w w B f rb cs S r) (ho : w.ownsRow B' 9 1 (.slice (some ⟨g, 0, none⟩) n c) n xs) (hg : (w.alloc o).grownBy w1 (some g)) : Loaded w1 w1 B f rb cs S r := by
  obtain ⟨h1, h2, h3⟩ := seen_out h ho
  obtain ⟨L, hc⟩ := h.ctx
  have hsz : w.heap.size ≤ w1.heap.size := by have := hg.size; simp at this; omega
  have hk : ∀ b, b < w.heap.size → b ≠ g → w1.heap[b]? = w.heap[b]? := fun b hlt hn => by
    rw [hg.block b (by simp; omega) (fun e => hn (Option.some.inj e)), Below.heap_alloc _ _ _ hlt]
  have hq := hc.farC_same (r := g) hsz hk h1
  exact ⟨⟨L, hq.1⟩, (hk rb h.reg.lt (Ne.symm h2)).trans h.reg, Below.refl _ _, FarC.refl _ _ _, hq.2.out h.reg.lt h.out⟩

theorem idx_ne {cs : List ByteArray} {s y : ByteArray} {k : Nat} (h : k < idx cs s) (hk : cs[k]? = some y) : y ≠ s := by
  rintro rfl
  have := idx_at (Nat.le_of_lt h) hk
  omega
theorem str_ne {a b : ByteArray} (h : a ≠ b) : (a.toList == b.toList) = false := by
  rw [ByteArray.toList_eq, ByteArray.toList_eq]
  refine beq_eq_false_iff_ne.2 fun e => h ?_
  cases a; cases b
  simpa using e
theorem str_self (a : ByteArray) : (a.toList == a.toList) = true := by simp
theorem ins_old {cs : List ByteArray} {s : ByteArray} (h : idx cs s < cs.length) : ins cs s = cs := if_pos h
theorem ins_new {cs : List ByteArray} {s : ByteArray} (h : ¬ idx cs s < cs.length) : ins cs s = cs ++ [s] := if_neg h
end Go.Proofs.YtofbdaicahngfaaFmt
