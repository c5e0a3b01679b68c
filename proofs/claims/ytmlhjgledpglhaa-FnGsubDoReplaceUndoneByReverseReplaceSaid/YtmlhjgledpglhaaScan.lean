/-
  The flag scanner's block, and the walks through the two methods that append to its buffer. A guest block beside it stays as it is.
-/
import Derived.Test.YtmlhjgledpglhaaAppend
import Derived.Deep.DeepMust
namespace Go.Proofs.Ytmlhjgledpglhaa
open Go.RowKit
set_option linter.unusedVariables false

theorem info5 : (Try.prog.info? 5).map (fun i => (i.zero, i.size, i.bytes)) = some (some (.int .u8 0), 1, 1) := by kernel_rfl

/-- The cells of a scanner's block. -/
def scanRow (fl : Int) (st en s : ByteArray) (v : Value) (pos : Nat) (hf cf : Bool) : Array Value := #[.int .u8 fl, .string st, .string en, v, .string s, .int .i64 s.size, .int .i64 pos, .bool hf, .bool cf]
/-- Block f is a scanner at pos, with that buffer; it and its buffer's row lie from block B on; the guest's block is another, and stands. -/
structure Scan (w : World) (B : Nat) (G : Nat × Option Obj) (f : Nat) (fl : Int) (st en s : ByteArray) (buf : List Value) (pos : Nat) (hf cf : Bool) : Prop where
  ex : ∃ g cap, Blk w f 31 (scanRow fl st en s (.slice (some ⟨g, 0, none⟩) buf.length cap) pos hf cf) ∧ w.ownsRow B 5 1 (.slice (some ⟨g, 0, none⟩) buf.length cap) buf.length buf ∧ G.1 ≠ g
  lo : B ≤ f
  guest : w.heap[G.1]? = G.2 ∧ G.1 ≠ f ∧ G.1 < w.heap.size

theorem appendStr_c (w : World) (B : Nat) (G : Nat × Option Obj) (f : Nat) (fl : Int) (st en s t : ByteArray) (buf : List Value) (pos : Nat) (hf cf : Bool) (h : Scan w B G f fl st en s buf pos hf cf) (h1 : buf.length ≤ 2097152) (h2 : t.size ≤ 2097152) :
    Calls Try.prog 39 #[.pointer (some ⟨f, 0, none⟩), .string t] w fun e w' => e = .returned (.tuple #[]) ∧ Scan w' B G f fl st en s (buf ++ Lib.strCells t) pos hf cf ∧ Below B w w' := by
  obtain ⟨⟨g, cap, hblk, hown, hgg⟩, hB, hG1, hG2, hG3⟩ := h
  obtain ⟨i1, hi1, hz1, hs1, hb1⟩ := info_parts info5
  have p3 : w.cell? ⟨f, 3, none⟩ = some (.slice (some ⟨g, 0, none⟩) buf.length cap) := by rw [hblk.cell]; rfl
  have f3 := hblk.frozen 3
  have n1 : g ≠ f := fun e => own_blk_ne hown hblk (by decide) (by rw [e]; rfl)
  have hgl := hown.lt g rfl
  have HO := Lib.hid hown
  have HB := Lib.hid hblk
  have HG0 := Lib.hid hG1
  have hlt := hblk.lt
  clear hblk hown hG1
  go_enter Try.func39, Try.ntmps39
  go_wp2_with (at_builtin; go_must (refine wpList_append_string_at rfl (.tmp 8) (.tmp 9) _ _ rfl B 5 i1 Try.underlying27 Try.underlying9 hi1 hz1 hs1 hb1 g buf.length cap buf rfl HO.out t rfl (by omega) (by omega) ?_))
  intro g' c' w1 hown1 hgrow1 hat1
  have HB1 := Lib.hid (HB.out.grown hgrow1 (by simpa using Ne.symm n1))
  have F3 := HB1.out.frozen 3
  have P3 : w1.cell? ⟨f, 3, none⟩ = some (.slice (some ⟨g, 0, none⟩) buf.length cap) := (HB1.out.cell 3).trans rfl
  have HO1 := Lib.hid hown1
  have HG1 := Lib.hid hgrow1
  have hne : G.1 ≠ g' := by rcases hat1 with rfl | rfl <;> omega
  clear hown1 hgrow1 hat1
  go_wp2_with fail
  go_end0
  have hsz := HG1.out.size
  refine ⟨rfl, ⟨⟨g', c', ?_, ?_, hne⟩, hB, ?_, hG2, by simp [World.setCell]; omega⟩, ?_⟩
  · rw [List.length_append, Lib.strCells_length]
    exact HB1.out.set_ 3 (.slice (some ⟨g', 0, none⟩) (buf.length + t.size) c')
  · rw [List.length_append, Lib.strCells_length]
    exact own_set_blk HO1.out HB1.out (by decide) 3 _
  · rw [Below.heap_setCell _ _ _ _ hG2, HG1.out.block _ hG3 (by simpa using hgg)]
    exact HG0.out
  · refine ((Below.refl B w).grown HG1.out (by omega) (fun j hj => ?_)).setCell hB _
    cases hj
    exact hgl.1

theorem appendChar_c (w : World) (B : Nat) (G : Nat × Option Obj) (f : Nat) (fl x : Int) (st en s : ByteArray) (buf : List Value) (pos : Nat) (hf cf : Bool) (h : Scan w B G f fl st en s buf pos hf cf) (h1 : buf.length ≤ 2097152) :
    Calls Try.prog 40 #[.pointer (some ⟨f, 0, none⟩), .int .u8 x] w fun e w' => e = .returned (.tuple #[]) ∧ Scan w' B G f fl st en s (buf ++ [.int .u8 x]) pos hf cf ∧ Below B w w' := by
  obtain ⟨⟨g, cap, hblk, hown, hgg⟩, hB, hG1, hG2, hG3⟩ := h
  obtain ⟨i1, hi1, hz1, hs1, hb1⟩ := info_parts info5
  have p3 : w.cell? ⟨f, 3, none⟩ = some (.slice (some ⟨g, 0, none⟩) buf.length cap) := by rw [hblk.cell]; rfl
  have n1 : g ≠ f := fun e => own_blk_ne hown hblk (by decide) (by rw [e]; rfl)
  have hgl := hown.lt g rfl
  have HO := Lib.hid hown
  have HB := Lib.hid hblk
  have HG0 := Lib.hid hG1
  have hlt := hblk.lt
  clear hblk hown hG1
  go_enter Try.func40, Try.ntmps40
  go_wp2_with (at_builtin; go_must (refine wpList_append_lies _ rfl (.tmp 8) (.tmp 10) _ rfl B 5 i1 _ 1 1 Try.underlying27 hi1 hz1 hs1 hb1 rfl (by omega) (.slice (some ⟨g, 0, none⟩) buf.length cap) buf.length buf rfl (HO.out.alloc _) ⟨w.heap.size, 0, none⟩ 1 1 [.int .u8 x] rfl rfl (World.news_of_block (cs := #[.int .u8 x]) (t := 5) (fr := (0, 0)) (heap_alloc_new w _)) (by simp [Value.oneCell']) (by omega) (by unfold maxLen; omega) (by omega) (by simp; omega) (w.heap.size + 1) (by simp) ?_))
  intro gg cap' w1 hown1 hgrow1 hat1 hlt1
  have HB1 := Lib.hid ((HB.out.alloc (.cells #[.int .u8 x] 5)).grown hgrow1 (by simpa [Value.ownBlock] using Ne.symm n1))
  have F3 := HB1.out.frozen 3
  have P3 : w1.cell? ⟨f, 3, none⟩ = some (.slice (some ⟨g, 0, none⟩) buf.length cap) := (HB1.out.cell 3).trans rfl
  have HO1 := Lib.hid hown1
  have HG1 := Lib.hid hgrow1
  have hne : G.1 ≠ gg := by
    rcases hat1 with h | h
    · have : g = gg := by simpa [Value.ownBlock] using h
      omega
    · omega
  clear hown1 hgrow1 hat1
  go_wp2_with fail
  go_end0
  have hsz := HG1.out.size
  simp only [World.size_alloc] at hsz
  refine ⟨rfl, ⟨⟨gg, cap', ?_, ?_, hne⟩, hB, ?_, hG2, by simp [World.setCell]; omega⟩, ?_⟩
  · rw [List.length_append]
    exact HB1.out.set_ 3 (.slice (some ⟨gg, 0, none⟩) (buf.length + 1) cap')
  · rw [List.length_append]
    exact own_set_blk HO1.out HB1.out (by decide) 3 _
  · rw [Below.heap_setCell _ _ _ _ hG2, HG1.out.block _ (by simp; omega) (by simpa [Value.ownBlock] using hgg), Below.heap_alloc _ _ _ hG3]
    exact HG0.out
  · refine (((Below.refl B w).alloc (by omega) _).grown HG1.out (by simp; omega) (fun j hj => ?_)).setCell hB _
    simp [Value.ownBlock] at hj
    omega
end Go.Proofs.Ytmlhjgledpglhaa
