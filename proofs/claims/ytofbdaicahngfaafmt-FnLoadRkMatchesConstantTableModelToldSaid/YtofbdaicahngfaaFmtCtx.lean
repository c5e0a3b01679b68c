/-
  The walk through newFuncContext: a new context with an empty table of constants and an empty code store.
-/
import Derived.Test.YtofbdaicahngfaaFmtProto
namespace Go.Proofs.YtofbdaicahngfaaFmt
open Go.RowKit
set_option linter.unusedVariables false

theorem own_mono {w : World} {B B' e size n : Nat} {v : Value} {xs : List Value} (h : w.ownsRow B e size v n xs) (hb : B' ≤ B) : w.ownsRow B' e size v n xs := by
  rcases h with ⟨h1, h | ⟨g, cap, cur, h2, h3, h4⟩⟩
  · exact ⟨h1, .inl h⟩
  · exact ⟨h1, .inr ⟨g, cap, cur, h2, Nat.le_trans hb h3, h4⟩⟩
theorem Proto.mono {w : World} {B B' p : Nat} {cs : List ByteArray} (h : Proto w B p cs) (hb : B' ≤ B) : Proto w B' p cs := by
  obtain ⟨g, c, C, h1, h2, h3, h4, h5⟩ := h
  exact ⟨g, c, C, Nat.le_trans hb h1, h2, h3, h4, own_mono h5 hb⟩
theorem Proto.set_ {w : World} {B p d i t : Nat} {u : Value} {C : Array Value} {cs : List ByteArray} (h : Proto w B p cs) (hd : Blk w d t C) (h1 : t ≠ 68) (h2 : t ≠ 77) : Proto (w.setCell ⟨d, i, none⟩ u) B p cs := by
  obtain ⟨g, c, C', k1, k2, k3, k4, k5⟩ := h
  exact ⟨g, c, C', k1, k2, k3.far (p := ⟨d, i, none⟩) (Blk.ne_ k3 hd (Ne.symm h1)) u, k4, own_set_blk k5 hd (Ne.symm h2) i u⟩
theorem Store.set_ {w : World} {B d' d i t : Nat} {u : Value} {C : Array Value} {S L : List Int} (h : Store w B d' S L) (hd : Blk w d t C) (h1 : t ≠ 41) (h2 : t ≠ 31) (h3 : t ≠ 3) : Store (w.setCell ⟨d, i, none⟩ u) B d' S L := by
  obtain ⟨g1, c1, g2, c2, cs, ls, k1, k2, k3, k4, k5, k6, k7, k8, k9⟩ := h
  exact ⟨g1, c1, g2, c2, cs, ls, k1, k2, k3, k4, k5, k6, k7.far (p := ⟨d, i, none⟩) (Blk.ne_ k7 hd (Ne.symm h1)) u, own_set_blk k8 hd (Ne.symm h2) i u, own_set_blk k9 hd (Ne.symm h3) i u⟩

/-- Block f is a context: its constants are the strings cs, its code the stack of instructions S with the lines L. -/
def FC (w : World) (B f : Nat) (cs : List ByteArray) (S L : List Int) : Prop :=
  ∃ (pb cb : Nat) (C : Array Value), B ≤ f ∧ Blk w f 50 C ∧ C[0]? = some (.pointer (some ⟨pb, 0, none⟩)) ∧ C[1]? = some (.pointer (some ⟨cb, 0, none⟩)) ∧ Proto w B pb cs ∧ Store w B cb S L

theorem FC.below {w w' : World} {B f : Nat} {cs : List ByteArray} {S L : List Int} (h : FC w B f cs S L) (hb : Below w.heap.size w w') : FC w' B f cs S L := by
  obtain ⟨pb, cb, C, h1, h2, h3, h4, h5, h6⟩ := h
  exact ⟨pb, cb, C, h1, h2.keep hb, h3, h4, h5.below hb, h6.below hb⟩

/-- The cells of a new context. -/
def ctxCells (pb cb p1 p2 : Nat) (r1 r2 : Option Nat) : Array Value := #[.pointer (some ⟨pb, 0, none⟩), .pointer (some ⟨cb, 0, none⟩), .pointer none, .pointer (some ⟨p1, 0, none⟩), .pointer (some ⟨p2, 0, none⟩), .slice none 0 0, .int .i64 0, .int .i64 1, .map r1, .int .i64 0, .map r2]

def Ctx0 (w : World) (B f : Nat) : Prop := ∃ pb cb p1 p2 r1 r2, B ≤ f ∧ Blk w f 50 (ctxCells pb cb p1 p2 r1 r2) ∧ Proto w B pb [] ∧ Store w B cb [] []
theorem Ctx0.below {w w' : World} {B f : Nat} (h : Ctx0 w B f) (hb : Below w.heap.size w w') : Ctx0 w' B f := by
  obtain ⟨pb, cb, p1, p2, r1, r2, h1, h2, h3, h4⟩ := h
  exact ⟨pb, cb, p1, p2, r1, r2, h1, h2.keep hb, h3.below hb, h4.below hb⟩

theorem empty_store {w : World} {B d g1 g2 c1 c2 : Nat} (hB : B ≤ d) (hd : Blk w d 41 #[.slice (some ⟨g1, 0, none⟩) 0 c1, .slice (some ⟨g2, 0, none⟩) 0 c2, .int .i64 0])
    (h1 : w.ownsRow B 31 1 (.slice (some ⟨g1, 0, none⟩) 0 c1) 0 []) (h2 : w.ownsRow B 3 1 (.slice (some ⟨g2, 0, none⟩) 0 c2) 0 []) : Store w B d [] [] :=
  ⟨g1, c1, g2, c2, [], [], hB, rfl, rfl, List.prefix_rfl, List.prefix_rfl, by simp, hd, h1, h2⟩

def Rctx (B : Nat) (nm : ByteArray) : Nat → Value → World → Prop
  | 0, v, w => v = .string nm
  | 1, v, w => ∃ p, v = .pointer (some ⟨p, 0, none⟩) ∧ Proto w B p []
  | 2, v, w => ∃ g, v = .slice (some ⟨g, 0, none⟩) 0 1024 ∧ w.ownsRow B 31 1 (.slice (some ⟨g, 0, none⟩) 0 1024) 0 []
  | 3, v, w => ∃ g, v = .slice (some ⟨g, 0, none⟩) 0 1024 ∧ w.ownsRow B 3 1 (.slice (some ⟨g, 0, none⟩) 0 1024) 0 []
  | 4, v, w => ∃ g1 g2, v = .agg #[.slice (some ⟨g1, 0, none⟩) 0 1024, .slice (some ⟨g2, 0, none⟩) 0 1024, .int .i64 0] ∧ w.ownsRow B 31 1 (.slice (some ⟨g1, 0, none⟩) 0 1024) 0 [] ∧ w.ownsRow B 3 1 (.slice (some ⟨g2, 0, none⟩) 0 1024) 0 []
  | 5, v, w => ∃ d, v = .pointer (some ⟨d, 0, none⟩) ∧ Store w B d [] []
  | 6, v, w => v = .pointer none
  | 10, v, w => ∃ r, v = .map r
  | 11, v, w => ∃ r, v = .map r
  | 12, v, w => ∃ pb cb p1 p2 r1 r2, v = .agg (ctxCells pb cb p1 p2 r1 r2) ∧ Proto w B pb [] ∧ Store w B cb [] []
  | 13, v, w => ∃ f, v = .pointer (some ⟨f, 0, none⟩) ∧ Ctx0 w B f
  | 14, v, w => ∃ f, v = .pointer (some ⟨f, 0, none⟩) ∧ Ctx0 w B f
  | _, v, w => ∃ p, v = .pointer (some ⟨p, 0, none⟩)

theorem Rctx.below {B : Nat} {nm : ByteArray} : ∀ (i : Nat) (v : Value) (w w' : World), Rctx B nm i v w → Below w.heap.size w w' → Rctx B nm i v w' := by
  intro i v w w' h hb
  unfold Rctx at *
  split at h
  · exact h
  · obtain ⟨p, rfl, h⟩ := h
    exact ⟨p, rfl, h.below hb⟩
  · obtain ⟨g, rfl, h⟩ := h
    exact ⟨g, rfl, own_below h hb⟩
  · obtain ⟨g, rfl, h⟩ := h
    exact ⟨g, rfl, own_below h hb⟩
  · obtain ⟨g1, g2, rfl, h1, h2⟩ := h
    exact ⟨g1, g2, rfl, own_below h1 hb, own_below h2 hb⟩
  · obtain ⟨d, rfl, h⟩ := h
    exact ⟨d, rfl, h.below hb⟩
  · exact h
  · exact h
  · exact h
  · obtain ⟨pb, cb, p1, p2, r1, r2, rfl, h1, h2⟩ := h
    exact ⟨pb, cb, p1, p2, r1, r2, rfl, h1.below hb, h2.below hb⟩
  · obtain ⟨f, rfl, h⟩ := h
    exact ⟨f, rfl, h.below hb⟩
  · obtain ⟨f, rfl, h⟩ := h
    exact ⟨f, rfl, h.below hb⟩
  · simp_all

set_option maxRecDepth 100000 in
theorem newCtx_c (w : World) (nm : ByteArray) : Calls Tryf.prog 17 #[.string nm, .pointer none] w fun e w' => ∃ f, e = .returned (.pointer (some ⟨f, 0, none⟩)) ∧ FC w' w.heap.size f [] [] [] ∧ Below w.heap.size w w' := by
  go_enter Tryf.func17, Tryf.ntmps17
  go_upto_region 1 with fail
  refine region_from (by kernel_rfl) (Rctx w.heap.size nm) _ _ (by kernel_rfl) Rctx.below ⟨?_, ?_, ?_, ?_, ?_, ?_, ?_, ?_, ?_, ?_, ?_, ?_, ?_, ?_, ?_, trivial⟩ ?_
  · intro a w1 K hB hold hdep hK
    have h0 : a.eval (.tmp 0) = .string nm := tmp_of (hold 0 (by decide))
    refine wp_run (v := .string nm) (w2 := w1) ?_ (hK _ _ rfl (Below.refl _ _))
    simp only [execOp]
    rw [h0]
    rfl
  · intro a w1 K hB hold hdep hK
    clear hold
    obtain ⟨v, hv, rfl⟩ := hdep ⟨0, .data⟩ (by simp) rfl _ 6 rfl rfl
    clear hdep
    refine wp_enter (f := 20) (args := #[.string nm]) (w2 := w1) ?_ ((newProto_c w1 nm).mono ?_)
    · clear hK
      have e := tmp_of hv
      simp only [execOp, resolve, List.map_toArray, List.map_cons, List.map_nil]
      rw [e]
      rfl
    · rintro e w2 ⟨p, rfl, hp, hb⟩
      exact ⟨_, rfl, hK _ _ ⟨_, rfl, hp.mono hB.size⟩ hb⟩
  · intro a w1 K hB hold hdep hK
    clear hold hdep
    have ho := run_make_cap 27 31 (.int .u32 0) 4 Tryf.underlying27 infoU rfl 1024 (by decide) (by decide) w1
    refine wp_run (v := .slice (some ⟨w1.heap.size, 0, none⟩) 0 1024) (w2 := w1.alloc (.cells (madeCells #[.int .u32 0] 1024) 31)) ?_ (hK _ _ ⟨_, rfl, own_made w1 31 (.int .u32 0) 1024 rfl hB.size (by unfold maxLen; omega)⟩ ((Below.refl _ _).alloc (Nat.le_refl _) _))
    simp only [execOp]
    rw [Sem.run_bind, show (Instr.makeSlice 27 (a.eval (.const (.int .i64 0))) (a.eval (.const (.int .i64 1024)))).run Tryf.prog w1 = _ from ho]
    rfl
  · intro a w1 K hB hold hdep hK
    clear hold hdep
    have ho := run_make_cap 39 3 (.int .i64 0) 8 Tryf.underlying39 infoI rfl 1024 (by decide) (by decide) w1
    refine wp_run (v := .slice (some ⟨w1.heap.size, 0, none⟩) 0 1024) (w2 := w1.alloc (.cells (madeCells #[.int .i64 0] 1024) 3)) ?_ (hK _ _ ⟨_, rfl, own_made w1 3 (.int .i64 0) 1024 rfl hB.size (by unfold maxLen; omega)⟩ ((Below.refl _ _).alloc (Nat.le_refl _) _))
    simp only [execOp]
    rw [Sem.run_bind, show (Instr.makeSlice 39 (a.eval (.const (.int .i64 0))) (a.eval (.const (.int .i64 1024)))).run Tryf.prog w1 = _ from ho]
    rfl
  · intro a w1 K hB hold hdep hK
    clear hold
    obtain ⟨v8, h8, g1, rfl, o1⟩ := hdep ⟨2, .data⟩ (by simp) rfl _ 8 rfl rfl
    obtain ⟨v9, h9, g2, rfl, o2⟩ := hdep ⟨3, .data⟩ (by simp) rfl _ 9 rfl rfl
    clear hdep
    refine wp_run (v := .agg #[.slice (some ⟨g1, 0, none⟩) 0 1024, .slice (some ⟨g2, 0, none⟩) 0 1024, .int .i64 0]) (w2 := w1) ?_ (hK _ _ ⟨_, _, rfl, o1, o2⟩ (Below.refl _ _))
    clear hK o1 o2
    simp only [execOp]
    rw [Sem.run_bind]
    simp only [List.map_toArray, List.map_cons, List.map_nil]
    rw [tmp_of h8, tmp_of h9]
    have hb : (Instr.build 41 #[(0, .slice (some ⟨g1, 0, none⟩) 0 1024), (1, .slice (some ⟨g2, 0, none⟩) 0 1024), (2, .int .i64 0)]).run Tryf.prog w1 = .ok (.agg #[.slice (some ⟨g1, 0, none⟩) 0 1024, .slice (some ⟨g2, 0, none⟩) 0 1024, .int .i64 0]) w1 := by kernel_rfl
    rw [show (Instr.build 41 #[(0, .slice (some ⟨g1, 0, none⟩) 0 1024), (1, .slice (some ⟨g2, 0, none⟩) 0 1024), (2, a.eval (.const (.int .i64 0)))]).run Tryf.prog w1 = _ from hb]
    rfl
  · intro a w1 K hB hold hdep hK
    clear hold
    obtain ⟨v, hv, g1, g2, rfl, o1, o2⟩ := hdep ⟨4, .data⟩ (by simp) rfl _ 10 rfl rfl
    clear hdep
    have hb : Below w1.heap.size w1 (w1.alloc (.cells #[.slice (some ⟨g1, 0, none⟩) 0 1024, .slice (some ⟨g2, 0, none⟩) 0 1024, .int .i64 0] 41)) := (Below.refl _ _).alloc (Nat.le_refl _) _
    refine wp_run (v := .pointer (some ⟨w1.heap.size, 0, none⟩)) (w2 := w1.alloc (.cells #[.slice (some ⟨g1, 0, none⟩) 0 1024, .slice (some ⟨g2, 0, none⟩) 0 1024, .int .i64 0] 41)) ?_ (hK _ _ ⟨_, rfl, empty_store hB.size (Blk.new _ _ _) (own_below o1 hb) (own_below o2 hb)⟩ hb)
    clear hK o1 o2
    simp only [execOp]
    rw [tmp_of hv]
    rfl
  · intro a w1 K hB hold hdep hK
    have h0 : a.eval (.tmp 1) = .pointer none := tmp_of (hold 1 (by decide))
    refine wp_run (v := .pointer none) (w2 := w1) ?_ (hK _ _ rfl (Below.refl _ _))
    simp only [execOp]
    rw [h0]
    rfl
  · intro a w1 K hB hold hdep hK
    clear hold hdep
    refine wp_enter (f := 21) (args := #[.int .i64 0]) (w2 := w1) ?_ ((newPool_c w1).mono ?_)
    · clear hK
      simp only [execOp, resolve, List.map_toArray, List.map_cons, List.map_nil]
      rfl
    · rintro e w2 ⟨p, rfl, hb⟩
      exact ⟨_, rfl, hK _ _ ⟨_, rfl⟩ hb⟩
  · intro a w1 K hB hold hdep hK
    clear hold hdep
    refine wp_enter (f := 21) (args := #[.int .i64 0]) (w2 := w1) ?_ ((newPool_c w1).mono ?_)
    · clear hK
      simp only [execOp, resolve, List.map_toArray, List.map_cons, List.map_nil]
      rfl
    · rintro e w2 ⟨p, rfl, hb⟩
      exact ⟨_, rfl, hK _ _ ⟨_, rfl⟩ hb⟩
  · intro a w1 K hB hold hdep hK
    clear hold
    obtain ⟨v, hv, q, rfl⟩ := hdep ⟨8, .data⟩ (by simp) rfl _ 14 rfl rfl
    clear hdep
    refine wp_enter (f := 22) (args := #[.pointer (some ⟨q, 0, none⟩), .int .i64 0, .pointer none, .nilIface, .int .i64 0]) (w2 := w1) ?_ ((newBlock_c w1 q).mono ?_)
    · clear hK
      have e := tmp_of hv
      simp only [execOp, resolve, List.map_toArray, List.map_cons, List.map_nil]
      rw [e]
      rfl
    · rintro e w2 ⟨p, rfl, hb⟩
      exact ⟨_, rfl, hK _ _ ⟨_, rfl⟩ hb⟩
  · intro a w1 K hB hold hdep hK
    clear hold hdep
    refine wp_run (v := .map (some w1.heap.size)) (w2 := w1.alloc (.map #[] 0)) ?_ (hK _ _ ⟨_, rfl⟩ ((Below.refl _ _).alloc (Nat.le_refl _) _))
    rfl
  · intro a w1 K hB hold hdep hK
    clear hold hdep
    refine wp_run (v := .map (some w1.heap.size)) (w2 := w1.alloc (.map #[] 0)) ?_ (hK _ _ ⟨_, rfl⟩ ((Below.refl _ _).alloc (Nat.le_refl _) _))
    rfl
  · intro a w1 K hB hold hdep hK
    clear hold
    obtain ⟨v7, h7, pb, rfl, hp⟩ := hdep ⟨1, .data⟩ (by simp) rfl _ 7 rfl rfl
    obtain ⟨v11, h11, cb, rfl, hc⟩ := hdep ⟨5, .data⟩ (by simp) rfl _ 11 rfl rfl
    obtain ⟨v12, h12, rfl⟩ := hdep ⟨6, .data⟩ (by simp) rfl _ 12 rfl rfl
    obtain ⟨v13, h13, p1, rfl⟩ := hdep ⟨7, .data⟩ (by simp) rfl _ 13 rfl rfl
    obtain ⟨v15, h15, p2, rfl⟩ := hdep ⟨9, .data⟩ (by simp) rfl _ 15 rfl rfl
    obtain ⟨v16, h16, r1, rfl⟩ := hdep ⟨10, .data⟩ (by simp) rfl _ 16 rfl rfl
    obtain ⟨v17, h17, r2, rfl⟩ := hdep ⟨11, .data⟩ (by simp) rfl _ 17 rfl rfl
    clear hdep
    refine wp_run (v := .agg (ctxCells pb cb p1 p2 r1 r2)) (w2 := w1) ?_ (hK _ _ ⟨_, _, _, _, _, _, rfl, hp, hc⟩ (Below.refl _ _))
    clear hK hp hc
    simp only [execOp]
    rw [Sem.run_bind]
    simp only [List.map_toArray, List.map_cons, List.map_nil]
    rw [tmp_of h7, tmp_of h11, tmp_of h12, tmp_of h13, tmp_of h15, tmp_of h16, tmp_of h17]
    have hb : (Instr.build 50 #[(0, .pointer (some ⟨pb, 0, none⟩)), (1, .pointer (some ⟨cb, 0, none⟩)), (2, .pointer none), (3, .pointer (some ⟨p1, 0, none⟩)), (4, .pointer (some ⟨p2, 0, none⟩)), (6, .int .i64 0), (7, .int .i64 1), (8, .map r1), (9, .int .i64 0), (10, .map r2)]).run Tryf.prog w1 = .ok (.agg (ctxCells pb cb p1 p2 r1 r2)) w1 := by kernel_rfl
    rw [show (Instr.build 50 #[(0, .pointer (some ⟨pb, 0, none⟩)), (1, .pointer (some ⟨cb, 0, none⟩)), (2, .pointer none), (3, .pointer (some ⟨p1, 0, none⟩)), (4, .pointer (some ⟨p2, 0, none⟩)), (6, a.eval (.const (.int .i64 0))), (7, a.eval (.const (.int .i64 1))), (8, .map r1), (9, a.eval (.const (.int .i64 0))), (10, .map r2)]).run Tryf.prog w1 = _ from hb]
    rfl
  · intro a w1 K hB hold hdep hK
    clear hold
    obtain ⟨v, hv, pb, cb, p1, p2, r1, r2, rfl, hp, hc⟩ := hdep ⟨12, .data⟩ (by simp) rfl _ 18 rfl rfl
    clear hdep
    have hb : Below w1.heap.size w1 (w1.alloc (.cells (ctxCells pb cb p1 p2 r1 r2) 50)) := (Below.refl _ _).alloc (Nat.le_refl _) _
    refine wp_run (v := .pointer (some ⟨w1.heap.size, 0, none⟩)) (w2 := w1.alloc (.cells (ctxCells pb cb p1 p2 r1 r2) 50)) ?_ (hK _ _ ⟨_, rfl, _, _, _, _, _, _, hB.size, Blk.new _ _ _, hp.below hb, hc.below hb⟩ hb)
    clear hK hp hc
    simp only [execOp]
    rw [tmp_of hv]
    rfl
  · intro a w1 K hB hold hdep hK
    clear hold
    obtain ⟨v, hv, p, rfl, hp⟩ := hdep ⟨13, .data⟩ (by simp) rfl _ 19 rfl rfl
    clear hdep
    refine wp_run (v := .pointer (some ⟨p, 0, none⟩)) (w2 := w1) ?_ (hK _ _ ⟨_, rfl, hp⟩ (Below.refl _ _))
    simp only [execOp]
    rw [tmp_of hv]
    rfl
  · intro a w1 hsz hdef hB hold hdone
    obtain ⟨v, hv, f, rfl, pb, cb, p1, p2, r1, r2, hf, hblk, hp, hc⟩ := hdone 14 _ 5 rfl rfl
    clear hold hdone
    have HBLK := Lib.hid hblk
    have HP := Lib.hid hp
    have HC := Lib.hid hc
    have HB : Hid (Below w.heap.size w w1) := ((Below.refl _ _).drew).trans hB
    clear hp hB hc
    obtain ⟨T, D⟩ := a
    obtain ⟨x0, x1, x2, x3, x4, x5, x6, x7, x8, x9, x10, x11, x12, x13, x14, x15, x16, x17, x18, x19, x20, x21, x22, x23, x24, x25, x26, x27, x28, hT⟩ := spelt_array (T := T) hsz
    subst hT
    obtain rfl : x5 = .pointer (some ⟨f, 0, none⟩) := by simpa using hv
    obtain rfl : D = [] := hdef
    clear hv hsz
    have q4 : w1.cell? ⟨f, 4, none⟩ = some (.pointer (some ⟨p2, 0, none⟩)) := by rw [hblk.cell]; rfl
    have hbk := hblk.alloc (.cells #[.pointer (some ⟨p2, 0, none⟩)] 45)
    have q5 : (w1.alloc (.cells #[.pointer (some ⟨p2, 0, none⟩)] 45)).cell? ⟨f, 5, none⟩ = some (.slice none 0 0) := by rw [hbk.cell]; rfl
    have f5 := hbk.frozen 5
    clear hbk
    clear hblk
    go_wp2
    go_ret
    have hb : Below w1.heap.size w1 (w1.alloc (.cells #[.pointer (some ⟨p2, 0, none⟩)] 45)) := (Below.refl _ _).alloc (Nat.le_refl _) _
    refine ⟨f, rfl, ⟨pb, cb, _, hf, (HBLK.out.alloc _).set_ 5 _, rfl, rfl, (HP.out.below hb).set_ (HBLK.out.alloc _) (by decide) (by decide), (HC.out.below hb).set_ (HBLK.out.alloc _) (by decide) (by decide) (by decide)⟩, ?_⟩
    exact (HB.out.alloc HB.out.size _).setCell hf _
end Go.Proofs.YtofbdaicahngfaaFmt
