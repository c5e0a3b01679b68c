/-
  The walks through the registry's writes, and through the reader of one slot.
-/
import Derived.Test.YtddmpdiidnamkaaReg
namespace Go.Proofs.Ytddmpdiidnamkaa
open Go.RowKit
set_option linter.unusedVariables false

theorem capOf_le {C gb mx i : Nat} (h1 : C ≤ mx) (h2 : i < mx) : i < capOf C gb mx (i + 1) ∧ capOf C gb mx (i + 1) ≤ mx ∧ C ≤ capOf C gb mx (i + 1) := by unfold capOf; split <;> omega
theorem Tur.trans {w w1 w2 : World} {f g g1 : Nat} (h : Tur w w1 f g) (h' : Tur w1 w2 f g1) (hg : g1 = g ∨ w.heap.size ≤ g1) : Tur w w2 f g :=
  ⟨Nat.le_trans h.1 h'.1, fun b hb hf hgg => (h'.2 b (Nat.lt_of_lt_of_le hb h.1) hf (by omega)).trans (h.2 b hb hf hgg)⟩
theorem Tur.cell {w w1 : World} {f g : Nat} (h : Tur w w1 f g) (p : Addr) (v : Value) (hp : p.block = f ∨ p.block = g ∨ w.heap.size ≤ p.block) : Tur w (w1.setCell p v) f g :=
  ⟨by simpa [World.setCell] using h.1, fun b hb hf hgg => (Below.heap_setCell _ _ _ _ (by rintro rfl; omega)).trans (h.2 b hb hf hgg)⟩
theorem Tur.refl (w : World) (f g : Nat) : Tur w w f g := ⟨Nat.le_refl _, fun _ _ _ _ => rfl⟩

/-- Behind the size's check: the slot is stored and the top raised. -/
theorem set_tail {w w1 : World} {B f g C g1 C1 top gb mx : Nat} {al : Value} {sl : Nat → Value} {i : Nat} {v : Value} (hv : v.oneCell' = true) (h : Rg w1 f g1 C1 top gb mx al sl) (hi : i < C1) (hc : C1 = capOf C gb mx (i + 1)) (ht : Tur w w1 f g) (hb : Below B w w1) (hg : g1 = g ∨ w.heap.size ≤ g1) (hB : B ≤ f ∧ B ≤ g1) :
    (i < top → SetPost w B f g C top gb mx al sl i v (.returned (.tuple #[])) (w1.setCell ⟨g1, i, none⟩ v)) ∧
    (top ≤ i → SetPost w B f g C top gb mx al sl i v (.returned (.tuple #[])) ((w1.setCell ⟨g1, i, none⟩ v).setCell ⟨f, 1, none⟩ (.int .i64 ((i : Int) + 1)))) := by
  refine ⟨fun h1 => ⟨rfl, g1, by rw [← hc]; exact h.stored i v hv hi h1, ht.cell _ _ (by show g1 = f ∨ g1 = g ∨ w.heap.size ≤ g1; omega), hb.setCell hB.2 _, hg⟩,
    fun h1 => ⟨rfl, g1, by rw [← hc]; exact h.raised i v hv hi h1, (ht.cell _ _ (by show g1 = f ∨ g1 = g ∨ w.heap.size ≤ g1; omega)).cell _ _ (.inl rfl), (hb.setCell hB.2 _).setCell hB.1 _, hg⟩⟩

set_option maxRecDepth 100000 in
theorem set_c (w : World) (B f g C top gb mx : Nat) (al : Value) (sl : Nat → Value) (i x : Nat) (h : Rg w f g C top gb mx al sl) (hi : i < mx) (hB : B ≤ f ∧ B ≤ g) (hBw : B ≤ w.heap.size) :
    Calls Try.prog 41 #[.pointer (some ⟨f, 0, none⟩), .int .i64 (i : Int), .iface 59 (.float .f64 x)] w (SetPost w B f g C top gb mx al sl i (.iface 59 (.float .f64 x))) := by
  have H := Lib.hid h
  obtain ⟨l1, l2, l3, l4⟩ := h.le
  have p0 := (h.head.cell 0).trans rfl
  have i0 : (0 : Int) ≤ (i : Int) := by omega
  clear h
  by_cases hc : C < i + 1
  · go_enter Try.func41, Try.ntmps41
    go_wp2_with fail
    have hrq := resize_c w B f g C top gb mx al sl (i + 1) H.out hc (by omega) hB
    rw [show ((i + 1 : Nat) : Int) = (i : Int) + 1 by omega] at hrq
    refine hrq.mono ?_; rintro e w1 ⟨rfl, g1, hr, ht, hb, hg1⟩
    have hcap : min (i + 1 + gb) mx = capOf C gb mx (i + 1) := by unfold capOf; rw [if_neg (by omega)]
    rw [hcap] at hr
    have hl := capOf_le (C := C) (gb := gb) (mx := mx) (i := i) l2 hi
    obtain ⟨C1, hC1⟩ : ∃ C1, C1 = capOf C gb mx (i + 1) := ⟨_, rfl⟩
    rw [← hC1] at hr hl
    have T := Lib.hid (set_tail (v := .iface 59 (.float .f64 x)) (hv := rfl) hr hl.1 hC1 ht hb (.inr hg1) ⟨hB.1, by omega⟩)
    have q0 := (hr.head.cell 0).trans rfl
    have q1 := (hr.head.cell 1).trans rfl
    have r0 := (hr.row.cell i).trans (rowOf_at hl.1)
    have rf := hr.row.frozen i
    have f1 := hr.head.frozen 1
    have hne := hr.ne
    have hne' : ¬ g1 = f := fun e => hne e.symm
    have i1 : (i : Int) < (C1 : Int) := by omega
    clear hr ht hb hC1 hcap hl p0 hrq
    have hti' : (top : Int) ≤ (i : Int) := by omega
    go_wp2_with fail
    go_end0
    exact T.out.2 (by omega)
  · have hcap : C = capOf C gb mx (i + 1) := by unfold capOf; rw [if_pos (by omega)]
    have hiC : i < C := by omega
    have T := Lib.hid (set_tail (v := .iface 59 (.float .f64 x)) (hv := rfl) H.out hiC hcap (Tur.refl w f g) (Below.refl B w) (.inl rfl) hB)
    have q1 := (H.out.head.cell 1).trans rfl
    have r0 := (H.out.row.cell i).trans (rowOf_at hiC)
    have rf := H.out.row.frozen i
    have f1 := H.out.head.frozen 1
    have hne := H.out.ne
    have hne' : ¬ g = f := fun e => hne e.symm
    have i1 : (i : Int) < (C : Int) := by omega
    clear hcap
    by_cases hti : i < top
    · have hti' : ¬ (top : Int) ≤ (i : Int) := by omega
      go_enter Try.func41, Try.ntmps41
      go_wp2_with fail
      go_end0
      exact T.out.1 hti
    · have hti' : (top : Int) ≤ (i : Int) := by omega
      go_enter Try.func41, Try.ntmps41
      go_wp2_with fail
      go_end0
      exact T.out.2 (by omega)

/-- ZZset of the one package. -/
theorem zset_c (w : World) (B f g C top gb mx : Nat) (al : Value) (sl : Nat → Value) (i x : Nat) (h : Rg w f g C top gb mx al sl) (hi : i < mx) (hB : B ≤ f ∧ B ≤ g) (hBw : B ≤ w.heap.size) :
    Calls Try.prog 12 #[.pointer (some ⟨f, 0, none⟩), .int .i64 (i : Int), .float .f64 x] w (SetPost w B f g C top gb mx al sl i (.iface 59 (.float .f64 x))) := by
  have H := Lib.hid (set_c w B f g C top gb mx al sl i x h hi hB hBw)
  clear h
  go_enter Try.func12, Try.ntmps12
  go_wp2_with fail
  refine H.out.mono ?_; rintro e w' ⟨rfl, hp⟩
  have HP := Lib.hid hp
  clear hp
  go_wp2_with fail
  go_end0
  exact ⟨rfl, HP.out⟩

/-- Are two numbers equal, as Go has it? -/
def feq (a b : Nat) : Bool := FloatKind.f64.format.order a b == some .eq
def num0 (x : Nat) : Nat := if feq x 0 then 0 else x

theorem lnum_c (x : Nat) (a : Value) (w : World) : Calls Try.prog 51 #[a, .float .f64 x] w fun e w' => e = .returned (.iface 59 (.float .f64 (num0 x))) ∧ w = w' := by
  unfold num0
  obtain hf | hf : feq x 0 = true ∨ feq x 0 = false := by cases feq x 0 <;> simp
  · rw [hf, if_pos rfl]
    unfold feq at hf
    go_enter Try.func51, Try.ntmps51
    go_wp2_with fail
    go_ret
    exact ⟨rfl, rfl⟩
  · rw [hf, if_neg (by simp)]
    unfold feq at hf
    go_enter Try.func51, Try.ntmps51
    go_wp2_with fail
    go_ret
    exact ⟨rfl, rfl⟩

set_option maxHeartbeats 1000000 in
set_option maxRecDepth 100000 in
theorem setNumber_c (w : World) (B f g C top gb mx : Nat) (a : Option Addr) (sl : Nat → Value) (i x : Nat) (h : Rg w f g C top gb mx (.pointer a) sl) (hi : i < mx) (hB : B ≤ f ∧ B ≤ g) (hBw : B ≤ w.heap.size) :
    Calls Try.prog 43 #[.pointer (some ⟨f, 0, none⟩), .int .i64 (i : Int), .float .f64 x] w fun e w' => e = .returned (.tuple #[]) ∧ ∃ w'', (∃ q, w' = w''.drewN q) ∧ SetPost w B f g C top gb mx (.pointer a) sl i (.iface 59 (.float .f64 (num0 x))) (.returned (.tuple #[])) w'' := by
  have H := Lib.hid h
  obtain ⟨l1, l2, l3, l4⟩ := h.le
  have p0 := (h.head.cell 0).trans rfl
  have i0 : (0 : Int) ≤ (i : Int) := by omega
  clear h
  by_cases hc : C < i + 1
  · go_enter Try.func43, Try.ntmps43
    go_wp2_with fail
    have hrq := resize_c w B f g C top gb mx (.pointer a) sl (i + 1) H.out hc (by omega) hB
    rw [show ((i + 1 : Nat) : Int) = (i : Int) + 1 by omega] at hrq
    refine hrq.mono ?_; rintro e w1 ⟨rfl, g1, hr, ht, hb, hg1⟩
    have hcap : min (i + 1 + gb) mx = capOf C gb mx (i + 1) := by unfold capOf; rw [if_neg (by omega)]
    rw [hcap] at hr
    have hl := capOf_le (C := C) (gb := gb) (mx := mx) (i := i) l2 hi
    obtain ⟨C1, hC1⟩ : ∃ C1, C1 = capOf C gb mx (i + 1) := ⟨_, rfl⟩
    rw [← hC1] at hr hl
    have T := Lib.hid (set_tail (v := .iface 59 (.float .f64 (num0 x))) (hv := rfl) hr hl.1 hC1 ht hb (.inr hg1) ⟨hB.1, by omega⟩)
    have q0 := (hr.head.cell 0).trans rfl
    have q1 := (hr.head.cell 1).trans rfl
    have q4 := (hr.head.cell 4).trans rfl
    have r0 := (hr.row.cell i).trans (rowOf_at hl.1)
    have rf := hr.row.frozen i
    have f1 := hr.head.frozen 1
    have hne := hr.ne
    have hne' : ¬ g1 = f := fun e => hne e.symm
    have i1 : (i : Int) < (C1 : Int) := by omega
    clear hr ht hb hC1 hcap hl p0 hrq
    have hti' : (top : Int) ≤ (i : Int) := by omega
    go_wp2_with fail
    have LN := Lib.hid (fun W => (lnum_c x (.pointer a) W).mono (R' := fun e w'' => e = .returned (.iface 59 (.float .f64 (num0 x))) ∧ w'' = W) fun _ _ h => ⟨h.1, h.2.symm⟩)
    go_still_tail 12, (by kernel_rfl)
    still_call (LN.out _)
    repeat still_step
    refine wpStill_nil ?_
    go_wp2_with fail
    go_end0
    exact ⟨rfl, _, ⟨1, rfl⟩, T.out.2 (by omega)⟩
  · have hcap : C = capOf C gb mx (i + 1) := by unfold capOf; rw [if_pos (by omega)]
    have hiC : i < C := by omega
    have T := Lib.hid (set_tail (v := .iface 59 (.float .f64 (num0 x))) (hv := rfl) H.out hiC hcap (Tur.refl w f g) (Below.refl B w) (.inl rfl) hB)
    have q1 := (H.out.head.cell 1).trans rfl
    have q4 := (H.out.head.cell 4).trans rfl
    have r0 := (H.out.row.cell i).trans (rowOf_at hiC)
    have rf := H.out.row.frozen i
    have f1 := H.out.head.frozen 1
    have hne := H.out.ne
    have hne' : ¬ g = f := fun e => hne e.symm
    have i1 : (i : Int) < (C : Int) := by omega
    have LN := Lib.hid (fun W => (lnum_c x (.pointer a) W).mono (R' := fun e w'' => e = .returned (.iface 59 (.float .f64 (num0 x))) ∧ w'' = W) fun _ _ h => ⟨h.1, h.2.symm⟩)
    clear hcap
    by_cases hti : i < top
    · have hti' : ¬ (top : Int) ≤ (i : Int) := by omega
      go_enter Try.func43, Try.ntmps43
      go_wp2_with fail
      go_still_tail 12, (by kernel_rfl)
      still_call (LN.out _)
      repeat still_step
      refine wpStill_nil ?_
      go_wp2_with fail
      go_end0
      exact ⟨rfl, _, ⟨1, rfl⟩, T.out.1 hti⟩
    · have hti' : (top : Int) ≤ (i : Int) := by omega
      go_enter Try.func43, Try.ntmps43
      go_wp2_with fail
      go_still_tail 12, (by kernel_rfl)
      still_call (LN.out _)
      repeat still_step
      refine wpStill_nil ?_
      go_wp2_with fail
      go_end0
      exact ⟨rfl, _, ⟨1, rfl⟩, T.out.2 (by omega)⟩

theorem zsetNumber_c (w : World) (B f g C top gb mx : Nat) (a : Option Addr) (sl : Nat → Value) (i x : Nat) (h : Rg w f g C top gb mx (.pointer a) sl) (hi : i < mx) (hB : B ≤ f ∧ B ≤ g) (hBw : B ≤ w.heap.size) :
    Calls Try.prog 28 #[.pointer (some ⟨f, 0, none⟩), .int .i64 (i : Int), .float .f64 x] w (SetPost w B f g C top gb mx (.pointer a) sl i (.iface 59 (.float .f64 (num0 x)))) := by
  have H := Lib.hid (setNumber_c w B f g C top gb mx a sl i x h hi hB hBw)
  clear h
  go_enter Try.func28, Try.ntmps28
  go_wp2_with fail
  refine H.out.mono ?_; rintro e w' ⟨rfl, w'', ⟨q, rfl⟩, hp⟩
  have HP := Lib.hid hp
  clear hp
  go_wp2_with fail
  go_end0
  obtain ⟨_, g', hr, ht, hb, hg⟩ := HP.out
  exact ⟨rfl, g', ⟨hr.head, hr.row, hr.le, hr.fresh, hr.one⟩, ht, below_drewN hb q, hg⟩

/-- What a slot's value reads as: nil, or a number. -/
def SlotIs (v : Value) (k : Int) (x : Nat) : Prop := (v = .nilIface ∧ k = 0 ∧ x = 0) ∨ (v = .iface 59 (.float .f64 x) ∧ k = 1)
theorem assert59 (v : Value) (w : World) : (Instr.typeAssert (.iface 59 v) 63 59 true).run Try.prog w = .ok (.tuple #[v, .bool true]) w := by kernel_rfl
theorem eql_iface_nil (t : Nat) (v : Value) (w : World) : (binOp .eql 63 (.iface t v) .nilIface).run Try.prog w = .ok (.bool false) w := by
  have h : ∀ d : Nat, (Op.equalIn (d + 1) 63 (.iface t v) .nilIface).run Try.prog w = .ok false w := fun d => by
    simp [Op.equalIn, run_underlying Try.underlying63]
  simp only [binOp]
  simp [Op.equal, Op.maxDepth, h 9999]
theorem slot_c (w : World) (f g C top gb mx : Nat) (al : Value) (sl : Nat → Value) (i : Nat) (k : Int) (x : Nat) (h : Rg w f g C top gb mx al sl) (hi : i < C) (hs : SlotIs (sl i) k x) :
    Calls Try.prog 31 #[.pointer (some ⟨f, 0, none⟩), .int .i64 (i : Int)] w fun e w' => e = .returned (.tuple #[.int .i64 k, .float .f64 x]) ∧ w = w' := by
  have G := get_c w f g C top gb mx al sl i h hi
  clear h
  rcases hs with ⟨h1, rfl, rfl⟩ | ⟨h1, rfl⟩
  · rw [h1] at G
    have GH := Lib.hid G
    clear G h1
    go_enter Try.func31, Try.ntmps31
    go_wp2_with fail
    refine GH.out.mono ?_; rintro e w' ⟨rfl, rfl⟩
    go_wp2_with fail
    go_ret2
    exact ⟨rfl, rfl⟩
  · rw [h1] at G
    have GH := Lib.hid G
    clear G h1
    have e1 := fun v W => assert59 v W
    have e2 := fun t v W => eql_iface_nil t v W
    go_enter Try.func31, Try.ntmps31
    go_wp2_with fail
    refine GH.out.mono ?_; rintro e w' ⟨rfl, rfl⟩
    go_wp2_with fail
    go_ret2
    exact ⟨rfl, rfl⟩
end Go.Proofs.Ytddmpdiidnamkaa
