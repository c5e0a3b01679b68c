/-
  The walks through the code store's own methods (Add, Pop, List, PosList, At, Last, LastPC) and its maker, over what the store holds as two stacks.
-/
import Derived.Test.YtofbdaicahngfaaFmtCopy
import Derived.Deep.AppendLies
import Derived.Deep.RegionHeld3
import Derived.Deep.DeepMust
namespace Go.Proofs.YtofbdaicahngfaaFmt
open Go.RowKit
set_option linter.unusedVariables false

theorem infoU : (Tryf.prog.info? 31).map (fun i => (i.zero, i.size, i.bytes)) = some (some (.int .u32 0), 1, 4) := by kernel_rfl
theorem infoI : (Tryf.prog.info? 3).map (fun i => (i.zero, i.size, i.bytes)) = some (some (.int .i64 0), 1, 8) := by kernel_rfl

/-- make with a length of 0 and a capacity, elements of one cell. -/
theorem run_make_cap (t e : TypeId) (z : Value) (bytes : Nat) (ht : Tryf.prog.underlying t = some (.slice e)) (hinfo : (Tryf.prog.info? e).map (fun i => (i.zero, i.size, i.bytes)) = some (some z, 1, bytes)) (hz1 : z.cells = #[z])
    (c : Nat) (hbytes : bytes * c ≤ 281474976710656) (h63 : c ≤ 9223372036854775807) (w : World) :
    (Instr.makeSlice t (.int .i64 0) (.int .i64 (c : Int))).run Tryf.prog w = .ok (.slice (some ⟨w.heap.size, 0, none⟩) 0 c) (w.alloc (.cells (madeCells #[z] c) e)) := by
  obtain ⟨i, hi, hzz⟩ := Option.map_eq_some_iff.1 hinfo
  simp only [Prod.mk.injEq] at hzz
  obtain ⟨hz, hs, hb⟩ := hzz
  have hb' : (i.bytes : Int) * (c : Int) ≤ 281474976710656 := by
    have h : ((i.bytes * c : Nat) : Int) ≤ 281474976710656 := by rw [hb]; omega
    rwa [Int.natCast_mul] at h
  have hr := run_make (P := Tryf.prog) w t e i z ht hi hz .i64 .i64 0 c (by omega) (by omega) hb' (by omega)
  simp only [Int.toNat_natCast, hs, Nat.mul_one, hz1] at hr
  exact hr

/-- Block d is a code store whose live part is the stack of instructions S and the stack of lines L; it and its rows lie from block B on. -/
def Store (w : World) (B d : Nat) (S L : List Int) : Prop :=
  ∃ (g1 c1 g2 c2 : Nat) (cs ls : List Int), B ≤ d ∧ S.length = L.length ∧ cs.length = ls.length ∧ S <+: cs ∧ L <+: ls ∧ cs.length ≤ 1048576 ∧
    Blk w d 41 #[.slice (some ⟨g1, 0, none⟩) cs.length c1, .slice (some ⟨g2, 0, none⟩) cs.length c2, .int .i64 S.length] ∧
    w.ownsRow B 31 1 (.slice (some ⟨g1, 0, none⟩) cs.length c1) cs.length (cs.map (Value.int .u32)) ∧
    w.ownsRow B 3 1 (.slice (some ⟨g2, 0, none⟩) cs.length c2) cs.length (ls.map (Value.int .i64))

/-- The blocks that the store at d uses. -/
def Fp (w : World) (d b : Nat) : Prop := b = d ∨ (∃ a n c, w.cell? ⟨d, 0, none⟩ = some (.slice (some a) n c) ∧ a.block = b) ∨ (∃ a n c, w.cell? ⟨d, 1, none⟩ = some (.slice (some a) n c) ∧ a.block = b)
/-- From w to w' only the store's own blocks and new ones have turned. -/
structure Far (w w' : World) (d : Nat) : Prop where
  size : w.heap.size ≤ w'.heap.size
  kept : ∀ b, b < w.heap.size → ¬ Fp w d b → w'.heap[b]? = w.heap[b]?
  grow : ∀ b, Fp w' d b → Fp w d b ∨ w.heap.size ≤ b

theorem Far.refl (w : World) (d : Nat) : Far w w d := ⟨Nat.le_refl _, fun _ _ _ => rfl, fun _ h => .inl h⟩
theorem Far.trans {a b c : World} {d : Nat} (h : Far a b d) (k : Far b c d) : Far a c d := by
  refine ⟨Nat.le_trans h.size k.size, fun i hi hn => ?_, fun i hf => ?_⟩
  · rw [k.kept i (Nat.lt_of_lt_of_le hi h.size) (fun hf => ?_), h.kept i hi hn]
    rcases h.grow i hf with h' | h'
    · exact hn h'
    · omega
  · rcases k.grow i hf with h' | h'
    · exact h.grow i h'
    · have := h.size
      exact .inr (by omega)
theorem far_put {w w' : World} {d g1 g2 h1 h2 n1 c1 n2 c2 n3 c3 n4 c4 : Nat} (p0 : w.cell? ⟨d, 0, none⟩ = some (.slice (some ⟨g1, 0, none⟩) n1 c1)) (p1 : w.cell? ⟨d, 1, none⟩ = some (.slice (some ⟨g2, 0, none⟩) n2 c2))
    (hs : w.heap.size ≤ w'.heap.size) (hk : ∀ b, b < w.heap.size → b ≠ d → b ≠ g1 → b ≠ g2 → w'.heap[b]? = w.heap[b]?)
    (q0 : w'.cell? ⟨d, 0, none⟩ = some (.slice (some ⟨h1, 0, none⟩) n3 c3)) (q1 : w'.cell? ⟨d, 1, none⟩ = some (.slice (some ⟨h2, 0, none⟩) n4 c4)) (e1 : h1 = g1 ∨ w.heap.size ≤ h1) (e2 : h2 = g2 ∨ w.heap.size ≤ h2) : Far w w' d := by
  refine ⟨hs, fun b hb hn => hk b hb (fun e => hn (.inl e)) (fun e => hn (.inr (.inl ⟨_, _, _, p0, e.symm⟩))) (fun e => hn (.inr (.inr ⟨_, _, _, p1, e.symm⟩))), fun b hf => ?_⟩
  rcases hf with rfl | ⟨a, n, c, e, rfl⟩ | ⟨a, n, c, e, rfl⟩
  · exact .inl (.inl rfl)
  · rw [q0] at e
    obtain rfl : a = ⟨h1, 0, none⟩ := by simp at e; exact e.1.symm
    rcases e1 with rfl | e1
    · exact .inl (.inr (.inl ⟨_, _, _, p0, rfl⟩))
    · exact .inr e1
  · rw [q1] at e
    obtain rfl : a = ⟨h2, 0, none⟩ := by simp at e; exact e.1.symm
    rcases e2 with rfl | e2
    · exact .inl (.inr (.inr ⟨_, _, _, p1, rfl⟩))
    · exact .inr e2

end Go.Proofs.YtofbdaicahngfaaFmt
