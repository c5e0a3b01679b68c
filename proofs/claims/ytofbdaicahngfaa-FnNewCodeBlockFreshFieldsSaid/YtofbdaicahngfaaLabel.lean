/-
  A code block's label map: strings to descriptors; looking up, adding, counting.
-/
import Derived.Test.YtofbdaicahngfaaCount
import Derived.Maps.OwnSet
import Derived.StillTailTactics
import Derived.Lib.Builder
import Derived.LaidEqlPtr
import Derived.Deep.DeepMust
namespace Go.Proofs.Ytofbdaicahngfaa
open Go.RowKit
set_option linter.unusedVariables false

/-- How an element, a pointer to a descriptor's head, reads: as a number, nil as nought. -/
def ptrElem : Value → Option (DataW Unit × List MemPlace)
  | .pointer none => some (.lit (.int .i64 0), [])
  | .pointer (some ⟨b, 0, none⟩) => some (.lit (.int .i64 ((b : Int) + 1)), [])
  | _ => none
def ptrOf : Nat → Value
  | 0 => .pointer none
  | b + 1 => .pointer (some ⟨b, 0, none⟩)
theorem ptrElem_of (c : Nat) : ptrElem (ptrOf c) = some (.lit (.int .i64 (c : Int)), []) := by cases c <;> rfl
theorem ptrElem_inv {v : Value} {c : Nat} {ps : List MemPlace} (h : ptrElem v = some (.lit (.int .i64 (c : Int)), ps)) : v = ptrOf c := by
  unfold ptrElem at h
  split at h
  · simp only [Option.some.injEq, Prod.mk.injEq, DataW.lit.injEq, Lit.int.injEq, true_and] at h
    obtain rfl : c = 0 := by omega
    rfl
  · rename_i b
    simp only [Option.some.injEq, Prod.mk.injEq, DataW.lit.injEq, Lit.int.injEq, true_and] at h
    obtain rfl : c = b + 1 := by omega
    rfl
  · cases h

theorem keyed9 : Maps.Keyed Try.prog 9 := Maps.string_keyed Try.underlying9
theorem zero35 (w : World) : (zeroValue 35).run Try.prog w = .ok (.pointer none) w := by kernel_rfl

/-- Block mb is a label map of s labels: at a name k the descriptor's number F k, nought where there is none. -/
def LM (w : World) (mb n s : Nat) (F : List UInt8 → Nat) : Prop :=
  ∃ D : DataW Unit, w.ownsMap Try.prog 9 ptrElem mb n D ∧ Maps.size D = s ∧ ∀ k, D.atKey (.string k) (.lit (.int .i64 0)) = .lit (.int .i64 (F k : Int)) ∧ Maps.has D (.string k) = decide (F k ≠ 0)

theorem LM.lt {w : World} {mb n s : Nat} {F : List UInt8 → Nat} (h : LM w mb n s F) : mb < w.heap.size := by obtain ⟨D, h1, _⟩ := h; exact h1.lt
theorem LM.made (w : World) : LM (w.alloc (.map #[] 0)) w.heap.size 0 0 (fun _ => 0) := ⟨.map [], World.ownsMap_made w _ _ _, rfl, fun k => ⟨rfl, rfl⟩⟩
theorem LM.kept {w w' : World} {mb n s : Nat} {F : List UInt8 → Nat} (h : LM w mb n s F) (hb : w'.heap[mb]? = w.heap[mb]?) : LM w' mb n s F := by
  obtain ⟨D, ⟨es, cl, h1, r⟩, h2⟩ := h
  exact ⟨D, ⟨es, cl, hb.trans h1, r⟩, h2⟩
theorem LM.below {w w' : World} {mb n s : Nat} {F : List UInt8 → Nat} (h : LM w mb n s F) (hb : Below w.heap.size w w') : LM w' mb n s F := h.kept (hb.block mb h.lt)
theorem LM.drewN {w : World} {mb n s : Nat} {F : List UInt8 → Nat} (h : LM w mb n s F) (q : Nat) : LM (w.drewN q) mb n s F := h.kept rfl

theorem LM.look {w : World} {mb n s : Nat} {F : List UInt8 → Nat} (h : LM w mb n s F) (q : ByteArray) (hq : q.size ≤ maxLen) :
    (Instr.lookup 31 (.map (some mb)) (.string q) true).run Try.prog w = .ok (.tuple #[ptrOf (F q.data.toList), .bool (decide (F q.data.toList ≠ 0))]) w := by
  obtain ⟨D, h1, h2, h3⟩ := h
  obtain ⟨v, ps, hr, hv⟩ := h1.look_ok keyed9 Try.underlying31 (zero35 w) (zd := .lit (.int .i64 0)) (zp := []) rfl (WideMaps.keyOf_string_mk Try.underlying9 hq)
  obtain ⟨h4, h5⟩ := h3 q.data.toList
  rw [h4] at hv
  rw [ptrElem_inv hv, h5] at hr
  exact hr
theorem LM.len {w : World} {mb n s : Nat} {F : List UInt8 → Nat} (h : LM w mb n s F) (ty : TypeId) : (Builtin.len_ #[31] ty #[.map (some mb)]).run Try.prog w = .ok (.int .i64 (s : Int)) w := by
  obtain ⟨D, h1, h2, h3⟩ := h
  have := h1.len Try.underlying31 ty
  rw [h2] at this
  exact this
def updF (F : List UInt8 → Nat) (k : List UInt8) (v : Nat) : List UInt8 → Nat := fun j => if j = k then v else F j
theorem LM.add {w : World} {mb n s : Nat} {F : List UInt8 → Nat} (h : LM w mb n s F) (hn : n < 1048576) (q : ByteArray) (hq : q.size ≤ maxLen) (hF : F q.data.toList = 0) (l : Nat) :
    ∃ w', (Instr.mapUpdate 31 (.map (some mb)) (.string q) (.pointer (some ⟨l, 0, none⟩))).run Try.prog w = .ok () w' ∧ LM w' mb (n + 1) (s + 1) (updF F q.data.toList (l + 1)) ∧ w.grownBy w' (some mb) := by
  obtain ⟨D, h1, h2, h3⟩ := h
  obtain ⟨w', hr, h4, h5⟩ := h1.update keyed9 Try.underlying31 (by unfold maxLen; omega) (WideMaps.keyOf_string_mk Try.underlying9 hq) (d := .lit (.int .i64 ((l + 1 : Nat) : Int))) (ps := []) (ptrElem_of (l + 1))
  refine ⟨w', hr, ⟨_, h4, ?_, fun k => ?_⟩, h5⟩
  · rw [Maps.size_put (h1.tidy keyed9), (h3 q.data.toList).2, hF, h2]
    simp
  · unfold updF
    by_cases e : k = q.data.toList
    · subst e
      rw [if_pos rfl, Maps.atKey_put_same h1.isMap (k := .string q.data.toList) trivial, Maps.has_put_same h1.isMap (k := .string q.data.toList) trivial]
      exact ⟨rfl, by simp⟩
    · have hne : Lit.string k ≠ Lit.string q.data.toList := fun h => e (by injection h)
      rw [if_neg e, Maps.atKey_put_other hne, Maps.has_put_other hne]
      exact h3 k

/-- Block d is a code block over the pool in block p, with that label map. -/
def CB (w : World) (d p : Nat) (bl fg : Int) (par : Option Addr) (mb : Nat) : Prop := Blk w d 33 #[.pointer (some ⟨p, 0, none⟩), .int .i64 bl, .pointer par, .bool false, .int .i64 0, .int .i64 0, .map (some mb), .int .i64 fg]

theorem newCB_c (w : World) (p : Nat) (bl fg : Int) (par : Option Addr) : Calls Try.prog 11 #[.pointer (some ⟨p, 0, none⟩), .int .i64 bl, .pointer par, .int .i64 fg] w fun e w' =>
    ∃ d mb, e = .returned (.pointer (some ⟨d, 0, none⟩)) ∧ CB w' d p bl fg par mb ∧ LM w' mb 0 0 (fun _ => 0) ∧ Below w.heap.size w w' ∧ w.heap.size ≤ d ∧ w.heap.size ≤ mb := by
  have hmm : ∀ W : World, (Instr.makeMap 31 none).run Try.prog W = .ok (.map (some W.heap.size)) (W.alloc (.map #[] 0)) := fun W => rfl
  go_enter Try.func11, Try.ntmps11
  go_wp2_with (go_at_call 24; go_in)
  go_ret
  refine ⟨w.heap.size + 1, w.heap.size, rfl, Blk.new_at _ _ _ (by simp), (LM.made w).below ?_, ?_, by omega, Nat.le_refl _⟩
  · first | exact (Below.refl _ _).alloc (Nat.le_refl _) _ | exact ((Below.refl _ _).alloc (Nat.le_refl _) _).drew
  · repeat (first | exact Below.refl _ _ | refine Below.drew ?_ | refine Below.alloc ?_ (by simp <;> omega) _)

theorem getLabel_c (w : World) (d p : Nat) (bl fg : Int) (par : Option Addr) (mb n s : Nat) (F : List UInt8 → Nat) (q : ByteArray) (h : CB w d p bl fg par mb) (hl : LM w mb n s F) (hq : q.size ≤ maxLen) :
    Calls Try.prog 14 #[.pointer (some ⟨d, 0, none⟩), .string q] w fun e w' => e = .returned (ptrOf (F q.data.toList)) ∧ w = w' := by
  have p6 := (Blk.cell h 6).trans rfl
  have hlk := hl.look q hq
  obtain hc | ⟨b, hc⟩ : F q.data.toList = 0 ∨ ∃ b, F q.data.toList = b + 1 := by cases F q.data.toList with | zero => exact .inl rfl | succ b => exact .inr ⟨b, rfl⟩
  · rw [hc] at hlk ⊢
    simp only [ne_eq, not_true_eq_false, decide_false] at hlk
    simp only [ptrOf] at hlk ⊢
    clear h hl hc
    go_enter Try.func14, Try.ntmps14
    go_wp2_with (go_at_call 25; go_in)
    go_ret
    exact ⟨rfl, rfl⟩
  · rw [hc] at hlk ⊢
    have h1 : decide (b + 1 ≠ 0) = true := by simp
    rw [h1] at hlk
    simp only [ptrOf] at hlk ⊢
    clear h hl hc h1
    go_enter Try.func14, Try.ntmps14
    go_wp2_with (go_at_call 25; go_in)
    go_ret
    exact ⟨rfl, rfl⟩

theorem countLabel_c (w : World) (d p : Nat) (bl fg : Int) (par : Option Addr) (mb n s : Nat) (F : List UInt8 → Nat) (h : CB w d p bl fg par mb) (hl : LM w mb n s F) :
    Calls Try.prog 13 #[.pointer (some ⟨d, 0, none⟩)] w fun e w' => e = .returned (.int .i64 (s : Int)) ∧ w = w' := by
  have p6 := (Blk.cell h 6).trans rfl
  have hlen := fun ty => hl.len ty
  clear h hl
  go_enter Try.func13, Try.ntmps13
  go_wp2
  go_ret
  exact ⟨rfl, rfl⟩

/-- Block l is a descriptor with that name. -/
def LD (w : World) (l : Nat) (q : ByteArray) : Prop := ∃ a b c e, Blk w l 42 #[.int .i64 a, .string q, .int .i64 b, .int .i64 c, .int .i64 e]
theorem newLabel_c (w : World) (a b c e : Int) (q : ByteArray) : Calls Try.prog 16 #[.int .i64 a, .string q, .int .i64 b, .int .i64 c, .int .i64 e] w fun x w' => ∃ l, x = .returned (.pointer (some ⟨l, 0, none⟩)) ∧ LD w' l q ∧ Below w.heap.size w w' ∧ w.heap.size ≤ l := by
  go_enter Try.func16, Try.ntmps16
  go_wp2_with (go_at_call 27; go_in)
  go_ret
  exact ⟨w.heap.size, rfl, ⟨a, b, c, e, Blk.new _ _ _⟩, (Below.refl _ _).alloc (Nat.le_refl _) _, Nat.le_refl _⟩

/-- The name is there: the label map stays. -/
theorem addOld_c (w : World) (d p : Nat) (bl fg : Int) (par : Option Addr) (mb n s : Nat) (F : List UInt8 → Nat) (q : ByteArray) (l b : Nat) (h : CB w d p bl fg par mb) (hl : LM w mb n s F) (hq : q.size ≤ maxLen) (hd : LD w l q) (hF : F q.data.toList = b + 1) :
    Calls Try.prog 17 #[.pointer (some ⟨d, 0, none⟩), .pointer (some ⟨l, 0, none⟩)] w fun e w' => e = .returned (.pointer (some ⟨b, 0, none⟩)) ∧ ∃ k, w.drewN k = w' := by
  have p6 := (Blk.cell h 6).trans rfl
  have hlk : ∀ k, (Instr.lookup 31 (.map (some mb)) (.string q) true).run Try.prog (w.drewN k) = .ok (.tuple #[.pointer (some ⟨b, 0, none⟩), .bool true]) (w.drewN k) := fun k => by
    have := (hl.drewN k).look q hq
    rw [hF] at this
    exact this
  obtain ⟨a, b', c, e, hb⟩ := hd
  have q1 := (hb.cell 1).trans rfl
  clear h hl hb hF
  go_enter Try.func17, Try.ntmps17
  go_wp2_with (go_at_call 28; go_in)
  go_quiet (fail)
  go_wp2_with fail
  go_ret
  exact ⟨rfl, _, rfl⟩

theorem wpList_update {P : Program} {w w2 : World} {ops : Array Oper} {rest : List Oper} {o : Oper} {a : Act} {Q : Exit → Act → World → Prop}
    (hg : o.guard = none) (m x v : Operand) (t : TypeId) (hop : o.op = Op.mapUpdate t m x v) (mv key val : Value) (hm : a.eval m = mv) (hx : a.eval x = key) (hv : a.eval v = val)
    (hr : (Instr.mapUpdate t mv key val).run P w = .ok () w2) (hK : wpList P ops Q rest (a.put o.dst undef) w2) : wpList P ops Q (o :: rest) a w := by
  refine wpList_plain hg fun K' hK' => ?_
  unfold Oper.wp
  simp [execOp, hop, hm, hx, hv, hr, Result.andThen]
  exact hK' _ _ hK
theorem addNew_c (w : World) (d p : Nat) (bl fg : Int) (par : Option Addr) (mb n s : Nat) (F : List UInt8 → Nat) (q : ByteArray) (l : Nat) (h : CB w d p bl fg par mb) (hl : LM w mb n s F) (hq : q.size ≤ maxLen) (hn : n < 1048576) (hd : LD w l q) (hF : F q.data.toList = 0) :
    Calls Try.prog 17 #[.pointer (some ⟨d, 0, none⟩), .pointer (some ⟨l, 0, none⟩)] w fun e w' => e = .returned (.pointer none) ∧ LM w' mb (n + 1) (s + 1) (updF F q.data.toList (l + 1)) ∧ w.grownBy w' (some mb) := by
  have p6 := (Blk.cell h 6).trans rfl
  have hlk : ∀ k, (Instr.lookup 31 (.map (some mb)) (.string q) true).run Try.prog (w.drewN k) = .ok (.tuple #[.pointer none, .bool false]) (w.drewN k) := fun k => by
    have := (hl.drewN k).look q hq
    rw [hF] at this
    exact this
  have HL := Lib.hid hl
  have HF := Lib.hid hF
  obtain ⟨a, b', c, e, hb⟩ := hd
  have q1 := (hb.cell 1).trans rfl
  clear h hl hb hF
  go_enter Try.func17, Try.ntmps17
  go_wp2_with (go_at_call 28; go_in)
  go_quiet (fail)
  go_wp2_with fail
  have P6 : (w.drewN nq).cell? ⟨d, 6, none⟩ = some (.map (some mb)) := p6
  have Q1 : (w.drewN nq).cell? ⟨l, 1, none⟩ = some (.string q) := q1
  have HL1 := Lib.hid (HL.out.drewN nq)
  have G1 : Hid (w.grownBy (w.drewN nq) (some mb)) := ⟨rfl, rfl, rfl, Nat.le_refl _, fun _ _ _ => rfl⟩
  clear p6 q1 hlk
  generalize w.drewN nq = w1 at *
  go_still_tail 9, (by kernel_rfl)
  obtain ⟨w2, hr, h4, h5⟩ := (HL1.out.drewN 1).add hn q hq HF.out l
  refine wpList_update rfl (.tmp 24) (.tmp 28) (.tmp 29) 31 rfl (.map (some mb)) (.string q) (.pointer (some ⟨l, 0, none⟩)) rfl rfl rfl hr ?_
  have H4 := Lib.hid h4
  have G2 : Hid (w.grownBy w2 (some mb)) := ⟨h5.os.trans G1.out.os, h5.tape.trans G1.out.tape, h5.output.trans G1.out.output, Nat.le_trans G1.out.size h5.size, fun i hi hne => (h5.block i (Nat.lt_of_lt_of_le hi G1.out.size) hne).trans (G1.out.block i hi hne)⟩
  clear h4 h5 hr
  go_wp2_with fail
  go_ret
  exact ⟨rfl, H4.out, G2.out⟩
end Go.Proofs.Ytofbdaicahngfaa
