/-
  The walks through the registry's methods, over the slots that it holds.
-/
import Derived.Test.YtddmpdiidnamkaaRows
import Derived.Test.YtddmpdiidnamkaaBase
import Derived.Laws.CopyOwn
import Derived.Deep.OwnRows
import Derived.StillTailTactics
import Derived.WalkSpells
import Derived.Deep.DeepMust
import Derived.Outline
import Derived.WalkLawsBesides
namespace Go.Proofs.Ytddmpdiidnamkaa
open Go.RowKit
set_option linter.unusedVariables false

theorem info63 : (Try.prog.info? 63).map (fun i => (i.zero, i.size, i.bytes)) = some (some .nilIface, 1, 16) := by kernel_rfl

theorem size63 : (Try.prog.info? 63).map (·.size) = some 1 := by kernel_rfl

/-- The first C slots, as a row. -/
def rowOf (sl : Nat → Value) (C : Nat) : Array Value := ((List.range C).map sl).toArray
theorem rowOf_size (sl : Nat → Value) (C : Nat) : (rowOf sl C).size = C := by simp [rowOf]
theorem rowOf_at {sl : Nat → Value} {C j : Nat} (h : j < C) : (rowOf sl C)[j]? = some (sl j) := by simp [rowOf, h]
def upd (sl : Nat → Value) (i : Nat) (v : Value) : Nat → Value := fun j => if j = i then v else sl j
theorem rowOf_set (sl : Nat → Value) (C i : Nat) (v : Value) : (rowOf sl C).setIfInBounds i v = rowOf (upd sl i v) C := by
  apply Array.ext_getElem?
  intro j
  by_cases hj : j < C
  · rw [rowOf_at hj, Array.getElem?_setIfInBounds]
    unfold upd
    by_cases e : i = j
    · subst e; simp [rowOf_size, hj]
    · rw [if_neg e, if_neg (Ne.symm e), rowOf_at hj]
  · rw [Array.getElem?_eq_none (by simp [rowOf_size]; omega), Array.getElem?_eq_none (by simp [rowOf_size]; omega)]
theorem row_splice (sl : Nat → Value) (C t : Nat) (ht : t ≤ C) (h : ∀ j, t ≤ j → sl j = .nilIface) : (splice (madeCells #[.nilIface] C).toList 0 ((List.range t).map sl)).toArray = rowOf sl C := by
  unfold splice rowOf
  rw [List.take_zero, List.nil_append, Nat.zero_add, List.length_map, List.length_range]
  congr 1
  apply List.ext_getElem?
  intro j
  by_cases h1 : j < t
  · rw [List.getElem?_append_left (by simpa using h1)]
    simp [h1, Nat.lt_of_lt_of_le h1 ht]
  · rw [List.getElem?_append_right (by simpa using h1), List.length_map, List.length_range, List.getElem?_drop, show t + (j - t) = j by omega]
    by_cases hj : j < C
    · simp [madeCells, hj, h j (by omega), Nat.mod_one]
    · simp [madeCells, hj]

/-- Block f is a registry of C slots with the given top; its slots lie in block g. -/
structure Rg (w : World) (f g C top gb mx : Nat) (al : Value) (sl : Nat → Value) : Prop where
  head : Blk w f 57 #[.slice (some ⟨g, 0, none⟩) C C, .int .i64 top, .int .i64 gb, .int .i64 mx, al, .nilIface]
  row : Blk w g 63 (rowOf sl C)
  le : top ≤ C ∧ C ≤ mx ∧ mx ≤ 65536 ∧ gb ≤ 65536
  fresh : ∀ j, top ≤ j → sl j = .nilIface
  one : ∀ j, (sl j).oneCell' = true

theorem Rg.ne {w : World} {f g C top gb mx : Nat} {al : Value} {sl : Nat → Value} (h : Rg w f g C top gb mx al sl) : f ≠ g := Blk.ne_ h.head h.row (by decide)

/-- From w to w' only blocks f and g and what is new have turned. -/
def Tur (w w' : World) (f g : Nat) : Prop := w.heap.size ≤ w'.heap.size ∧ ∀ b, b < w.heap.size → b ≠ f → b ≠ g → w'.heap[b]? = w.heap[b]?
theorem Tur.of_below {w w' : World} (h : Below w.heap.size w w') (f g : Nat) : Tur w w' f g := ⟨h.size, fun b hb _ _ => h.block b hb⟩

set_option maxRecDepth 100000 in
theorem force_c (w : World) (B f g C top gb mx : Nat) (al : Value) (sl : Nat → Value) (C' : Nat) (h : Rg w f g C top gb mx al sl) (h1 : top ≤ C') (h2 : C' ≤ mx) (hB : B ≤ f ∧ B ≤ g) :
    Calls Try.prog 52 #[.pointer (some ⟨f, 0, none⟩), .int .i64 (C' : Int)] w fun e w' => e = .returned (.tuple #[]) ∧ ∃ g', Rg w' f g' C' top gb mx al sl ∧ Tur w w' f g ∧ Below B w w' ∧ w.heap.size ≤ g' := by
  have H := Lib.hid h
  obtain ⟨l1, l2, l3, l4⟩ := h.le
  have hC' : C' ≤ 65536 := by omega
  have hmk := fun W => run_make_row' (P := Try.prog) 52 63 .nilIface 16 Try.underlying52 info63 rfl .i64 .i64 C' (by omega) (by omega) W
  have hfl := h.head.lt
  clear h
  go_enter Try.func52, Try.ntmps52
  go_wp2_with fail
  have L1 : Hid (Below w.heap.size w (w.alloc (.cells (madeCells #[.nilIface] C') 63))) := (Below.refl _ _).alloc (Nat.le_refl _) _
  have hb1 := H.out.head.alloc (.cells (madeCells #[.nilIface] C') 63)
  have hg1 := H.out.row.alloc (.cells (madeCells #[.nilIface] C') 63)
  have hn1 := heap_alloc_new w (.cells (madeCells #[.nilIface] C') 63)
  clear hmk
  generalize w.alloc (.cells (madeCells #[.nilIface] C') 63) = w1 at *
  have p0 := (hb1.cell 0).trans rfl
  have p1 := (hb1.cell 1).trans rfl
  have i1 : (top : Int) ≤ (C : Int) := by omega
  go_still_tail 10, (by kernel_rfl)
  refine wpList_copy_splice rfl (.tmp 7) (.tmp 16) 52 52 rfl 63 Try.underlying52 size63 (some ⟨w.heap.size, 0, none⟩) (some ⟨g, 0, none⟩) C' C' top C rfl rfl w.heap.size 0 (madeCells #[.nilIface] C').toList 63 hn1 ((List.range top).map sl) (by simp [Nat.min_eq_left h1]) (fun hp => ⟨rfl, _, rfl, fun j v hv => ?_⟩) (by simp [size_madeCells]; omega) (fun v hv => by
      obtain ⟨j, _, rfl⟩ := List.mem_map.1 hv
      exact H.out.one j) w.heap.size w L1.out.drew (Nat.le_refl _) ?_
  · have hj : j < top := by have := (List.getElem?_eq_some_iff.1 hv).1; simpa using this
    rw [Addr.add_lit]
    have := (hg1.cell j).trans (rowOf_at (by omega))
    rw [show 0 + j = j by omega]
    show w1.cell? _ = _
    rw [this, ← hv]
    simp [hj]
  intro w2 hh2 hb2
  have HR := Lib.hid (row_splice sl C' top h1 H.out.fresh ▸ hh2.out)
  have HB2 := Lib.hid hb2
  have hb3 := H.out.head.below hb2 hfl
  have f0 := hb3.frozen 0
  have p0' := (hb3.cell 0).trans rfl
  clear hh2 hb2 p0 p1 hb1 hg1 hn1
  go_wp2_with fail
  go_end0
  refine ⟨rfl, w.heap.size, ⟨hb3.set_ 0 _, Blk.far HR.out (by show w.heap.size ≠ f; omega) _, ⟨h1, by omega, l3, l4⟩, H.out.fresh, H.out.one⟩, ⟨?_, ?_⟩, (HB2.out.mono (by omega)).setCell hB.1 _, Nat.le_refl _⟩
  · have := HB2.out.size
    simpa [World.setCell] using this
  · intro b hb hbf hbg
    rw [Below.heap_setCell _ _ _ _ hbf]
    exact HB2.out.block b hb

/-- How many slots there are behind a call that needs req of them. -/
def capOf (C gb mx req : Nat) : Nat := if req ≤ C then C else min (req + gb) mx

set_option maxRecDepth 100000 in
theorem resize_c (w : World) (B f g C top gb mx : Nat) (al : Value) (sl : Nat → Value) (req : Nat) (h : Rg w f g C top gb mx al sl) (h1 : C < req) (h2 : req ≤ mx) (hB : B ≤ f ∧ B ≤ g) :
    Calls Try.prog 50 #[.pointer (some ⟨f, 0, none⟩), .int .i64 (req : Int)] w fun e w' => e = .returned (.tuple #[]) ∧ ∃ g', Rg w' f g' (min (req + gb) mx) top gb mx al sl ∧ Tur w w' f g ∧ Below B w w' ∧ w.heap.size ≤ g' := by
  have H := Lib.hid h
  obtain ⟨l1, l2, l3, l4⟩ := h.le
  have p2 := (h.head.cell 2).trans rfl
  have p3 := (h.head.cell 3).trans rfl
  clear h
  by_cases hc : mx < req + gb
  · obtain ⟨M, hM⟩ : ∃ M, M = min (req + gb) mx := ⟨_, rfl⟩
    have hMm : mx = M := by omega
    rw [← hM]
    subst hMm
    have HM := Lib.hid hM
    clear hM
    go_enter Try.func50, Try.ntmps50
    go_wp2_with fail
    refine (force_c w B f g C top gb mx al sl mx H.out (by omega) (Nat.le_refl _) hB).mono ?_; rintro e w' ⟨rfl, hp⟩
    have HP := Lib.hid hp
    clear hp
    go_wp2_with fail
    go_end0
    exact ⟨rfl, HP.out⟩
  · obtain ⟨M, hM⟩ : ∃ M, M = min (req + gb) mx := ⟨_, rfl⟩
    have hMm : M = req + gb := by omega
    rw [← hM]
    clear hM
    have hMm' : (M : Int) = (req : Int) + (gb : Int) := by omega
    have hf := Lib.hid (force_c w B f g C top gb mx al sl M H.out (by omega) (by omega) hB)
    rw [hMm'] at hf
    have hc' : ¬ (mx : Int) < (req : Int) + (gb : Int) := by omega
    have hd' : ¬ (req : Int) + (gb : Int) < (req : Int) := by omega
    clear hMm hMm'
    go_enter Try.func50, Try.ntmps50
    go_wp2_with fail
    refine hf.out.mono ?_; rintro e w' ⟨rfl, hp⟩
    have HP := Lib.hid hp
    clear hp
    go_wp2_with fail
    go_end0
    exact ⟨rfl, HP.out⟩

def SetPost (w : World) (B f g C top gb mx : Nat) (al : Value) (sl : Nat → Value) (i : Nat) (v : Value) (e : Ending) (w' : World) : Prop :=
  e = .returned (.tuple #[]) ∧ ∃ g', Rg w' f g' (capOf C gb mx (i + 1)) (max top (i + 1)) gb mx al (upd sl i v) ∧ Tur w w' f g ∧ Below B w w' ∧ (g' = g ∨ w.heap.size ≤ g')

/-- The store and the top, behind the check of the size. -/
theorem Rg.stored {w : World} {f g C top gb mx : Nat} {al : Value} {sl : Nat → Value} (h : Rg w f g C top gb mx al sl) (i : Nat) (v : Value) (hv : v.oneCell' = true) (hi : i < C) (h1 : i < top) : Rg (w.setCell ⟨g, i, none⟩ v) f g C (max top (i + 1)) gb mx al (upd sl i v) := by
  rw [show max top (i + 1) = top by omega]
  exact ⟨Blk.far h.head h.ne v, by rw [← rowOf_set]; exact h.row.set_ i v, h.le, fun j hj => by unfold upd; rw [if_neg (by omega)]; exact h.fresh j hj, fun j => by unfold upd; split; exact hv; exact h.one j⟩
theorem Rg.raised {w : World} {f g C top gb mx : Nat} {al : Value} {sl : Nat → Value} (h : Rg w f g C top gb mx al sl) (i : Nat) (v : Value) (hv : v.oneCell' = true) (hi : i < C) (h1 : top ≤ i) : Rg ((w.setCell ⟨g, i, none⟩ v).setCell ⟨f, 1, none⟩ (.int .i64 ((i : Int) + 1))) f g C (max top (i + 1)) gb mx al (upd sl i v) := by
  rw [show max top (i + 1) = i + 1 by omega]
  obtain ⟨l1, l2, l3, l4⟩ := h.le
  refine ⟨(Blk.far h.head (p := ⟨g, i, none⟩) h.ne v).set_ 1 (.int .i64 ((i : Int) + 1)), ?_, ⟨by omega, l2, l3, l4⟩, fun j hj => by unfold upd; rw [if_neg (by omega)]; exact h.fresh j (by omega), fun j => by unfold upd; split; exact hv; exact h.one j⟩
  rw [← rowOf_set]
  exact Blk.far (h.row.set_ i v) (p := ⟨f, 1, none⟩) (Ne.symm h.ne) _

theorem get_c (w : World) (f g C top gb mx : Nat) (al : Value) (sl : Nat → Value) (i : Nat) (h : Rg w f g C top gb mx al sl) (hi : i < C) : Calls Try.prog 44 #[.pointer (some ⟨f, 0, none⟩), .int .i64 (i : Int)] w fun e w' => e = .returned (sl i) ∧ w = w' := by
  have p0 := (h.head.cell 0).trans rfl
  have q0 := (h.row.cell i).trans (rowOf_at hi)
  have i0 : (0 : Int) ≤ (i : Int) := by omega
  have i1 : (i : Int) < (C : Int) := by omega
  go_enter Try.func44, Try.ntmps44
  go_wp2
  go_ret
  exact ⟨rfl, rfl⟩
theorem top_c (w : World) (f g C top gb mx : Nat) (al : Value) (sl : Nat → Value) (h : Rg w f g C top gb mx al sl) : Calls Try.prog 13 #[.pointer (some ⟨f, 0, none⟩)] w fun e w' => e = .returned (.int .i64 (top : Int)) ∧ w = w' := by
  have p1 := (h.head.cell 1).trans rfl
  go_enter Try.func13, Try.ntmps13
  go_wp2
  go_ret
  exact ⟨rfl, rfl⟩
theorem full_c (w : World) (f g C top gb mx : Nat) (al : Value) (sl : Nat → Value) (h : Rg w f g C top gb mx al sl) : Calls Try.prog 11 #[.pointer (some ⟨f, 0, none⟩)] w fun e w' => e = .returned (.bool (decide (C ≤ top))) ∧ ∃ q, w.drewN q = w' := by
  have p0 := (h.head.cell 0).trans rfl
  have p1 := (h.head.cell 1).trans rfl
  go_enter Try.func11, Try.ntmps11
  go_wp2
  go_quiet (fail)
  go_wp2
  go_ret
  refine ⟨?_, _, rfl⟩
  simp
theorem new_c (w : World) (n gb mx : Nat) (al : Value) (hn : n ≤ mx) (hm : mx ≤ 65536) (hg : gb ≤ 65536) (ha : al = .pointer none ∨ ∃ a, al = .pointer (some a)) : Calls Try.prog 40 #[.nilIface, .int .i64 (n : Int), .int .i64 (gb : Int), .int .i64 (mx : Int), al] w fun e w' =>
    ∃ f g, e = .returned (.pointer (some ⟨f, 0, none⟩)) ∧ Rg w' f g n 0 gb mx al (fun _ => .nilIface) ∧ Below w.heap.size w w' ∧ w.heap.size ≤ f ∧ w.heap.size ≤ g := by
  have hmk := fun W => run_make_row' (P := Try.prog) 52 63 .nilIface 16 Try.underlying52 info63 rfl .i64 .i64 n (by omega) (by omega) W
  have hr : Hid (madeCells #[.nilIface] n = rowOf (fun _ => .nilIface) n) := Lib.hid (by
    have := row_splice (fun _ => .nilIface) n 0 (Nat.zero_le _) (fun _ _ => rfl)
    rw [← this]
    simp [splice])
  generalize madeCells #[.nilIface] n = C0 at *
  rcases ha with rfl | ⟨a, rfl⟩
  all_goals
    go_enter Try.func40, Try.ntmps40
    go_wp2
    go_ret
    refine ⟨w.heap.size + 1, w.heap.size, rfl, ⟨Blk.new_at _ _ _ (by simp), ?_, ⟨Nat.zero_le _, hn, hm, hg⟩, fun _ _ => rfl, fun _ => rfl⟩, ((Below.refl _ _).alloc (Nat.le_refl _) _).alloc (by simp) _, by omega, Nat.le_refl _⟩
    rw [← hr.out]
    exact (Blk.new w 63 C0).alloc _
end Go.Proofs.Ytddmpdiidnamkaa
