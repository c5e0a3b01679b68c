/-
  The walks through the fixed call-frame stack's methods, over the cells of its frames.
-/
import Derived.Test.YtbjpndoocidfbaaRows
import Derived.Test.YtbjpndoocidfbaaBase
import Derived.Deep.MidRow
import Derived.StillTailTactics
import Derived.RegionTactic
import Derived.Outline
namespace Go.Proofs.Ytbjpndoocidfbaa
open Go.RowKit
set_option linter.unusedVariables false

theorem info32 : (Try.prog.info? 32).map (·.size) = some 10 := by kernel_rfl

/-- A struct read whole in a region that draws its order and only reads. -/
theorem still_load_mid {P : Program} {ops : Array Oper} {w : World} {Q : Act → Prop} {rest : List Oper} {o : Oper} {a : Act} (hg : o.guard = none) (ty : TypeId) (x : Operand) (ho : o.op = .load ty x)
    (b off : Nat) (hx : a.eval x = .pointer (some ⟨b, off, none⟩)) (cs : List Value) (d : TypeDesc) (hc : w.rangeAt b off cs) (hu : P.underlying ty = some d) (hd : d.isRow = true) (hi : (P.info? ty).map (·.size) = some cs.length)
    (h : wpStill P ops w Q rest (a.put o.dst (.agg cs.toArray))) : wpStill P ops w Q (o :: rest) a := by
  have hw : Region.wanted o (yielded ops a.tmps) = true := by simp [Region.wanted, hg]
  unfold wpStill
  rw [if_pos hw]
  unfold Oper.still execOp
  simp only [ho, hx, Instr.loadAt, Instr.sureAddr, Sem.run_bind, Sem.run_pure, Result.andThen_ok, run_loadVar_mid w b off ty cs d hc hu hd hi]
  exact ⟨rfl, h⟩

theorem heap_setCells_other (b : Nat) : ∀ (vs : List Value) (o : Nat) (w : World) (i : Nat), i ≠ b → (w.setCells b o vs).heap[i]? = w.heap[i]?
  | [], _, _, _, _ => rfl
  | v :: r, o, w, i, h => by
    rw [World.setCells, heap_setCells_other b r (o + 1) _ i h]
    exact Below.heap_setCell _ _ _ _ h
theorem size_setCells (b : Nat) : ∀ (vs : List Value) (o : Nat) (w : World), (w.setCells b o vs).heap.size = w.heap.size
  | [], _, _ => rfl
  | v :: r, o, w => by
    rw [World.setCells, size_setCells b r (o + 1)]
    simp [World.setCell]
theorem below_setCells {B b : Nat} {a : World} (hb : B ≤ b) : ∀ (vs : List Value) (o : Nat) (w : World), Below B a w → Below B a (w.setCells b o vs)
  | [], _, _, h => h
  | v :: r, o, w, h => below_setCells hb r (o + 1) _ (h.setCell hb _)
theorem range_set {w : World} {g o : Nat} {vs : List Value} {v : Value} (h : w.rangeAt g o vs) (hl : 0 < vs.length) : (w.setCell ⟨g, o, none⟩ v).rangeAt g o (vs.set 0 v) := by
  intro j u hu
  rw [List.getElem?_set] at hu
  by_cases e : 0 = j
  · subst e
    rw [if_pos rfl, if_pos hl] at hu
    obtain rfl := Option.some.inj hu
    exact World.cell?_setCell_same _ _ _ (h 0 _ (List.getElem?_eq_getElem hl))
  · rw [if_neg e] at hu
    rw [World.cell?_setCell_other _ _ _ _ (fun e2 => by injection e2; omega)]
    exact h j u hu
theorem range_far {w : World} {g o : Nat} {cs : List Value} {p : Addr} (v : Value) (h : w.rangeAt g o cs) (hp : p.block ≠ g ∨ o + cs.length ≤ p.off) : (w.setCell p v).rangeAt g o cs := by
  intro j u hu
  have hj := (List.getElem?_eq_some_iff.1 hu).1
  rw [World.cell?_setCell_other _ _ _ _ (fun e2 => by subst e2; simp at hp; omega)]
  exact h j u hu
theorem there_set {w : World} {g o n : Nat} (h : w.there g o n) (p : Addr) (v : Value) : (w.setCell p v).there g o n := by
  intro j hj
  obtain ⟨h1, h2⟩ := h j hj
  refine ⟨?_, by rw [World.frozen?_setCell]; exact h2⟩
  obtain ⟨u, hu⟩ := Option.isSome_iff_exists.1 h1
  by_cases e : p = ⟨g, o + j, none⟩
  · subst e; rw [World.cell?_setCell_same _ _ _ hu]; rfl
  · rw [World.cell?_setCell_other _ _ _ _ e]; exact h1

/-- Block f is a stack of n frames, sp of them in use; the frames lie in block g. -/
structure Stk (w : World) (f g n sp : Nat) : Prop where
  head : Blk w f 41 #[.slice (some ⟨g, 0, none⟩) n n, .int .i64 sp]
  big : n ≤ 8192
  ne : f ≠ g
  row : w.there g 0 (n * 10)

/-- From w to w' only the stack's blocks f and g and what is new have turned; ranges of g that end at or ahead of cell o stand. -/
structure Tur (w w' : World) (f g o : Nat) : Prop where
  size : w.heap.size ≤ w'.heap.size
  far : ∀ b, b < w.heap.size → b ≠ f → b ≠ g → w'.heap[b]? = w.heap[b]?
  lo : ∀ p cs, p + cs.length ≤ o → w.rangeAt g p cs → w'.rangeAt g p cs

set_option maxRecDepth 100000 in
theorem push_c (w : World) (B f g n sp : Nat) (vs : List Value) (h : Stk w f g n sp) (hsp : sp < n) (hl : vs.length = 10) (h1 : ∀ v ∈ vs, v.oneCell' = true) (hB : B ≤ f ∧ B ≤ g) :
    Calls Try.prog 7 #[.pointer (some ⟨f, 0, none⟩), .agg vs.toArray] w fun e w' => e = .returned (.tuple #[]) ∧ Stk w' f g n (sp + 1) ∧ w'.rangeAt g (sp * 10) (vs.set 0 (.int .i64 sp)) ∧ Tur w w' f g (sp * 10) ∧ Below B w w' := by
  obtain ⟨hh, hn, hne, hrow⟩ := h
  have p0 := (hh.cell 0).trans rfl
  have p1 := (hh.cell 1).trans rfl
  have hfl := hh.lt
  have hvl : vs.toArray.size = 10 := by simpa using hl
  have i0 : (0 : Int) ≤ (sp : Int) := by omega
  have i1 : (sp : Int) < (n : Int) := by omega
  have HV := Lib.hid hvl
  have HL := Lib.hid hl
  clear hvl hl p0 p1
  go_enter Try.func7, Try.ntmps7
  go_wp2_with fail
  have hh1 := hh.alloc (.cells vs.toArray 32)
  have hrow1 := World.there_alloc hrow (.cells vs.toArray 32)
  have hbx := Blk.new w 32 vs.toArray
  have L1 : Hid (Below w.heap.size w (w.alloc (.cells vs.toArray 32))) := (Below.refl _ _).alloc (Nat.le_refl _) _
  have hx : w.heap.size ≠ g := fun e => by
    have := (hrow 0 (by omega)).1
    rw [e] at hfl
    obtain ⟨u, hu⟩ := Option.isSome_iff_exists.1 this
    have := World.block_lt_of_cell? w _ hu
    simp at this
    omega
  have hS1 : w.heap.size + 1 = (w.alloc (.cells vs.toArray 32)).heap.size := by simp
  have F1 : Hid (∀ b, b < w.heap.size → (w.alloc (.cells vs.toArray 32)).heap[b]? = w.heap[b]?) := fun b hb => Below.heap_alloc _ _ _ hb
  have R1 : Hid (∀ p cs, w.rangeAt g p cs → (w.alloc (.cells vs.toArray 32)).rangeAt g p cs) := fun p cs h => World.rangeAt_alloc h _
  have HS1 := Lib.hid hS1
  clear hS1
  generalize w.alloc (.cells vs.toArray 32) = w1 at *
  have hld : w1.drew.rangeAt w.heap.size 0 vs := fun j v hv => by rw [Nat.zero_add]; have := hbx.cell j; show w1.cell? _ = _; rw [this]; simpa using hv
  have p0 := (hh1.cell 0).trans rfl
  have p1 := (hh1.cell 1).trans rfl
  go_still_tail 10, (by kernel_rfl)
  refine still_load_mid rfl 32 (.tmp 3) rfl w.heap.size 0 rfl vs _ hld Try.underlying32 rfl (by rw [info32, HL.out]) ?_
  repeat still_step
  refine wpStill_nil ?_
  have ht : w1.drew.there g (sp * 10) vs.toArray.size := fun j hj => by
    have := hrow1 (sp * 10 + j) (by rw [HV.out] at hj; omega)
    rw [Nat.zero_add] at this
    exact this
  refine wpList_store_mid rfl 32 (.tmp 13) (.tmp 12) rfl g (sp * 10) vs.toArray rfl rfl ht (by rw [info32, HV.out]) (all_oneCell_toArray h1) ?_
  have hh2 : Blk (w1.drew.setCells g (sp * 10) vs) f 41 #[.slice (some ⟨g, 0, none⟩) n n, .int .i64 sp] := (heap_setCells_other g vs _ _ f hne).trans hh1
  have hrow2 : (w1.drew.setCells g (sp * 10) vs).there g 0 (n * 10) := World.there_setCells (w := w1.drew) hrow1 _ _ _
  have hR2 : Hid ((w1.drew.setCells g (sp * 10) vs).rangeAt g (sp * 10) vs) := World.rangeAt_setCells_same _ _ _ _ (by simpa using ht)
  have L2 : Hid (Below B w (w1.drew.setCells g (sp * 10) vs)) := below_setCells hB.2 vs _ _ ((L1.out.mono (by omega)).drew)
  have HS2 : Hid (w.heap.size + 1 = (w1.drew.setCells g (sp * 10) vs).heap.size) := by show _ = _; rw [size_setCells]; exact HS1.out
  have F2 : Hid (∀ b, b < w.heap.size → b ≠ g → (w1.drew.setCells g (sp * 10) vs).heap[b]? = w.heap[b]?) := fun b hb hg => (heap_setCells_other g vs _ _ b hg).trans (F1.out b hb)
  have R2 : Hid (∀ p cs, p + cs.length ≤ sp * 10 → w.rangeAt g p cs → (w1.drew.setCells g (sp * 10) vs).rangeAt g p cs) := fun p cs hp h => World.rangeAt_setCells_apart (w := w1.drew) (R1.out p cs h) _ _ _ (.inr (.inl hp))
  show wpList _ _ _ _ _ (w1.drew.setCells g (sp * 10) vs)
  generalize w1.drew.setCells g (sp * 10) vs = w2 at *
  have q0 := (hh2.cell 0).trans rfl
  have q1 := (hh2.cell 1).trans rfl
  have c0 : (w2.cell? ⟨g, sp * 10, none⟩).isSome = true := by have := (hrow2 (sp * 10) (by omega)).1; simpa using this
  have c1 : w2.frozen? ⟨g, sp * 10, none⟩ = false := by have := (hrow2 (sp * 10) (by omega)).2; simpa using this
  obtain ⟨u, hu⟩ := Option.isSome_iff_exists.1 c0
  clear p0 p1 hld ht c0
  go_wp2_with fail
  go_still_tail 14, (by kernel_rfl)
  have g1 := hh2.frozen 1
  have i2 : (sp : Int) + 1 ≤ 8192 := by omega
  go_wp2_with fail
  go_end0
  refine ⟨rfl, ⟨?_, hn, hne, ?_⟩, ?_, ⟨?_, ?_, ?_⟩, ?_⟩
  · exact (Blk.far hh2 (p := ⟨g, sp * 10, none⟩) hne (.int .i64 sp)).set_ 1 (.int .i64 ((sp : Int) + 1))
  · exact there_set (there_set hrow2 _ _) _ _
  · exact range_far _ (range_set hR2.out (by rw [HL.out]; omega)) (.inl hne)
  · have := HS2.out
    simp [World.setCell]
    omega
  · intro b hb hbf hbg
    exact (Below.heap_setCell _ _ _ _ hbf).trans ((Below.heap_setCell _ _ _ _ hbg).trans (F2.out b hb hbg))
  · intro p cs hp h
    exact range_far _ (range_far _ (R2.out p cs hp h) (.inr hp)) (.inl hne)
  · exact ((L2.out.setCell hB.2 _).setCell hB.1 _).drew

theorem last_c (w : World) (f g n sp : Nat) (h : Stk w f g n sp) (h0 : 0 < sp) (hsp : sp ≤ n) :
    Calls Try.prog 8 #[.pointer (some ⟨f, 0, none⟩)] w fun e w' => e = .returned (.pointer (some ⟨g, (sp - 1) * 10, none⟩)) ∧ ∃ q, w.drewN q = w' := by
  obtain ⟨hh, hn, hne, hrow⟩ := h
  have p0 := (hh.cell 0).trans rfl
  have p1 := (hh.cell 1).trans rfl
  have e1 : ((sp : Int) == 0) = false := by simp <;> omega
  have i0 : (0 : Int) ≤ (sp : Int) - 1 := by omega
  have i1 : (sp : Int) - 1 < (n : Int) := by omega
  have t1 : IntKind.i64.wrap ((sp : Int) - 1) = (sp : Int) - 1 := IntWalk.i64_in _ (by omega)
  have t2 : ((sp : Int) - 1).toNat = sp - 1 := by omega
  go_enter Try.func8, Try.ntmps8
  go_wp2
  go_quiet (fail)
  go_wp2
  go_ret
  exact ⟨rfl, _, rfl⟩

theorem sp_c (w : World) (f g n sp : Nat) (h : Stk w f g n sp) : Calls Try.prog 9 #[.pointer (some ⟨f, 0, none⟩)] w fun e w' => e = .returned (.int .i64 sp) ∧ w = w' := by
  obtain ⟨hh, hn, hne, hrow⟩ := h
  have p1 := (hh.cell 1).trans rfl
  go_enter Try.func9, Try.ntmps9
  go_wp2
  go_ret
  exact ⟨rfl, rfl⟩

theorem setSp_c (w : World) (f g n sp : Nat) (k : Int) (h : Stk w f g n sp) : Calls Try.prog 10 #[.pointer (some ⟨f, 0, none⟩), .int .i64 k] w fun e w' => e = .returned (.tuple #[]) ∧ w.setCell ⟨f, 1, none⟩ (.int .i64 k) = w' := by
  obtain ⟨hh, hn, hne, hrow⟩ := h
  have p1 := (hh.cell 1).trans rfl
  have f1 := hh.frozen 1
  go_enter Try.func10, Try.ntmps10
  go_wp2
  go_end0
  exact ⟨rfl, rfl⟩
theorem Stk.setSp {w : World} {f g n sp : Nat} (h : Stk w f g n sp) (k : Nat) : Stk (w.setCell ⟨f, 1, none⟩ (.int .i64 k)) f g n k :=
  ⟨h.head.set_ 1 (.int .i64 k), h.big, h.ne, there_set h.row _ _⟩
theorem Stk.drewN {w : World} {f g n sp : Nat} (h : Stk w f g n sp) (q : Nat) : Stk (w.drewN q) f g n sp := ⟨h.head, h.big, h.ne, h.row⟩

def zero32 : Value := .agg #[.int .i64 0, .pointer none, .pointer none, .int .i64 0, .int .i64 0, .int .i64 0, .int .i64 0, .int .i64 0, .int .i64 0, .int .i64 0]
set_option maxRecDepth 100000 in
theorem infoz32 : (Try.prog.info? 32).map (fun i => (i.zero, i.size, i.bytes)) = some (some zero32, 10, 80) := by kernel_rfl
theorem make_frames (n : Nat) (hn : n ≤ 8192) (w : World) : (Instr.makeSlice 39 (.int .i64 (n : Int)) (.int .i64 (n : Int))).run Try.prog w = .ok (.slice (some ⟨w.heap.size, 0, none⟩) n n) (w.alloc (.cells (madeCells zero32.cells (n * 10)) 32)) := by
  obtain ⟨i, hi, hzz⟩ := Option.map_eq_some_iff.1 infoz32
  simp only [Prod.mk.injEq] at hzz
  obtain ⟨hz, hs, hb⟩ := hzz
  have hr := run_make (P := Try.prog) w 39 32 i zero32 Try.underlying39 hi hz .i64 .i64 n n (by omega) (by omega) (by rw [hb]; omega) (by omega)
  simp only [Int.toNat_natCast, hs] at hr
  exact hr
theorem assert_stack (v : Value) (w : World) : (Instr.typeAssert (.iface 25 v) 37 25 false).run Try.prog w = .ok v w := by kernel_rfl

set_option maxRecDepth 100000 in
theorem new_c (w : World) (n : Nat) (hn : n ≤ 8192) : Calls Try.prog 6 #[.int .i64 (n : Int)] w fun e w' => ∃ f g, e = .returned (.pointer (some ⟨f, 0, none⟩)) ∧ Stk w' f g n 0 ∧ w.heap.size ≤ f ∧ w.heap.size ≤ g ∧ g < w'.heap.size ∧ Below w.heap.size w w' := by
  have hmk := fun W => make_frames n hn W
  have hS : Hid ((madeCells zero32.cells (n * 10)).size = n * 10) := size_madeCells _ _
  generalize madeCells zero32.cells (n * 10) = C at *
  go_enter Try.func6, Try.ntmps6
  have ha := assert_stack
  go_wp2_with (go_at_call 11; go_in)
  go_ret
  refine ⟨w.heap.size + 1, w.heap.size, rfl, ⟨Blk.new_at _ _ _ (by simp), hn, by omega, fun j hj => ?_⟩, by omega, Nat.le_refl _, by simp; omega, ((Below.refl _ _).alloc (Nat.le_refl _) _).alloc (by simp) _⟩
  have hb : ((w.alloc (.cells C 32)).alloc (.cells #[.slice (some ⟨w.heap.size, 0, none⟩) n n, .int .i64 0] 41)).heap[w.heap.size]? = some (.cells C 32 (0, 0)) := by
    rw [Below.heap_alloc _ _ _ (by simp)]
    exact heap_alloc_new _ _
  refine ⟨?_, ?_⟩
  · rw [Nat.zero_add, cell_of_row _ _ j _ 32 (0, 0) hb, Array.getElem?_eq_getElem (by rw [hS.out]; exact hj)]
    rfl
  · simp [World.frozen?, hb]
end Go.Proofs.Ytbjpndoocidfbaa
