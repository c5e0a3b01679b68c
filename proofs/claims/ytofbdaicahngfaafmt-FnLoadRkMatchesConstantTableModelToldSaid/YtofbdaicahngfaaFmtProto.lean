/-
  The walk through newFunctionProto: a new prototype whose table of constants is empty and its own.
-/
import Derived.Test.YtofbdaicahngfaaFmtAny
namespace Go.Proofs.YtofbdaicahngfaaFmt
open Go.RowKit
set_option linter.unusedVariables false

/-- A constant that is a string. -/
def sv (s : ByteArray) : Value := .iface 61 (.string s)

/-- Block p is a prototype whose table of constants is the strings cs; it and its row lie from block B on. -/
def Proto (w : World) (B p : Nat) (cs : List ByteArray) : Prop :=
  ∃ (g c : Nat) (C : Array Value), B ≤ p ∧ cs.length ≤ 1048576 ∧ Blk w p 68 C ∧ C[8]? = some (.slice (some ⟨g, 0, none⟩) cs.length c) ∧ w.ownsRow B 77 1 (.slice (some ⟨g, 0, none⟩) cs.length c) cs.length (cs.map sv)

theorem grown_none {w w' : World} (hb : Below w.heap.size w w') : w.grownBy w' none := ⟨hb.os, hb.tape, hb.output, hb.size, fun k hk _ => hb.block k hk⟩
theorem own_below {w w' : World} {B e size n : Nat} {v : Value} {xs : List Value} (h : w.ownsRow B e size v n xs) (hb : Below w.heap.size w w') : w'.ownsRow B e size v n xs :=
  h.kept (row := none) (grown_none hb) (Classical.em _)
theorem Blk.keep {w w' : World} {g : Nat} {t : TypeId} {cs : Array Value} (h : Blk w g t cs) (hb : Below w.heap.size w w') : Blk w' g t cs := h.below hb h.lt
theorem Proto.below {w w' : World} {B p : Nat} {cs : List ByteArray} (h : Proto w B p cs) (hb : Below w.heap.size w w') : Proto w' B p cs := by
  obtain ⟨g, c, C, h1, h2, h3, h4, h5⟩ := h
  exact ⟨g, c, C, h1, h2, h3.keep hb, h4, own_below h5 hb⟩

/-- make with a length of 0 gives a new row, whatever the elements are. -/
theorem run_make_any (t e : TypeId) (ht : Tryf.prog.underlying t = some (.slice e)) (c : Nat) (hinfo : (match Tryf.prog.info? e with | some i => i.zero.isSome && decide (i.bytes * c ≤ 281474976710656) | none => false) = true) (h63 : c ≤ 9223372036854775807) (w : World) :
    ∃ o, (Instr.makeSlice t (.int .i64 0) (.int .i64 (c : Int))).run Tryf.prog w = .ok (.slice (some ⟨w.heap.size, 0, none⟩) 0 c) (w.alloc o) := by
  cases hi : Tryf.prog.info? e with
  | none => rw [hi] at hinfo; cases hinfo
  | some i =>
    rw [hi] at hinfo
    simp only [Bool.and_eq_true, decide_eq_true_eq] at hinfo
    obtain ⟨z, hz⟩ := Option.isSome_iff_exists.1 hinfo.1
    have hb' : (i.bytes : Int) * (c : Int) ≤ 281474976710656 := by
      have h := hinfo.2
      rw [← Int.natCast_mul]
      omega
    have hr := run_make (P := Tryf.prog) w t e i z ht hi hz .i64 .i64 0 c (by omega) (by omega) hb' (by omega)
    simp only [Int.toNat_natCast] at hr
    exact ⟨_, hr⟩

def Rproto (B : Nat) (nm : ByteArray) : Nat → Value → World → Prop
  | 0, v, w => v = .string nm
  | 2, v, w => ∃ g, v = .slice (some ⟨g, 0, none⟩) 0 32 ∧ w.ownsRow B 77 1 (.slice (some ⟨g, 0, none⟩) 0 32) 0 []
  | 9, v, w => ∃ (C : Array Value) (g : Nat), v = .agg C ∧ C[8]? = some (.slice (some ⟨g, 0, none⟩) 0 32) ∧ w.ownsRow B 77 1 (.slice (some ⟨g, 0, none⟩) 0 32) 0 []
  | 10, v, w => ∃ p, v = .pointer (some ⟨p, 0, none⟩) ∧ Proto w B p []
  | 11, v, w => ∃ p, v = .pointer (some ⟨p, 0, none⟩) ∧ Proto w B p []
  | _, v, w => ∃ A n c, v = .slice A n c

theorem Rproto.below {B : Nat} {nm : ByteArray} : ∀ (i : Nat) (v : Value) (w w' : World), Rproto B nm i v w → Below w.heap.size w w' → Rproto B nm i v w' := by
  intro i v w w' h hb
  unfold Rproto at *
  split at h
  · exact h
  · obtain ⟨g, rfl, h⟩ := h
    exact ⟨g, rfl, own_below h hb⟩
  · obtain ⟨C, g, rfl, h1, h⟩ := h
    exact ⟨C, g, rfl, h1, own_below h hb⟩
  · obtain ⟨p, rfl, h⟩ := h
    exact ⟨p, rfl, h.below hb⟩
  · obtain ⟨p, rfl, h⟩ := h
    exact ⟨p, rfl, h.below hb⟩
  · simp_all

theorem i77 : (Tryf.prog.info? 77).map (fun i => (i.zero, i.size, i.bytes)) = some (some .nilIface, 1, 16) := by kernel_rfl
set_option maxRecDepth 100000 in
theorem newProto_c (w : World) (nm : ByteArray) : Calls Tryf.prog 20 #[.string nm] w fun e w' => ∃ p, e = .returned (.pointer (some ⟨p, 0, none⟩)) ∧ Proto w' w.heap.size p [] ∧ Below w.heap.size w w' := by
  go_enter Tryf.func20, Tryf.ntmps20
  go_upto_region 1 with fail
  refine region_from (by kernel_rfl) (Rproto w.heap.size nm) _ _ (by kernel_rfl) Rproto.below ⟨?_, ?_, ?_, ?_, ?_, ?_, ?_, ?_, ?_, ?_, ?_, ?_, trivial⟩ ?_
  · intro a w1 K hB hold hdep hK
    have h0 : a.eval (.tmp 0) = .string nm := tmp_of (hold 0 (by decide))
    refine wp_run (v := .string nm) (w2 := w1) ?_ (hK _ _ rfl (Below.refl _ _))
    simp only [execOp]
    rw [h0]
    rfl
  · intro a w1 K hB hold hdep hK
    clear hold hdep
    obtain ⟨o, ho⟩ := run_make_any 27 31 Tryf.underlying27 128 (by kernel_rfl) (by omega) w1
    refine wp_run (v := .slice (some ⟨w1.heap.size, 0, none⟩) 0 128) (w2 := w1.alloc o) ?_ (hK _ _ ⟨_, _, _, rfl⟩ ((Below.refl _ _).alloc (Nat.le_refl _) _))
    simp only [execOp]
    rw [Sem.run_bind, show (Instr.makeSlice 27 (a.eval (.const (.int .i64 0))) (a.eval (.const (.int .i64 128)))).run Tryf.prog w1 = _ from ho]
    rfl
  · intro a w1 K hB hold hdep hK
    clear hold hdep
    have ho := run_make_cap 63 77 .nilIface 16 Tryf.underlying63 i77 rfl 32 (by decide) (by decide) w1
    refine wp_run (v := .slice (some ⟨w1.heap.size, 0, none⟩) 0 32) (w2 := w1.alloc (.cells (madeCells #[.nilIface] 32) 77)) ?_ (hK _ _ ⟨_, rfl, own_made w1 77 .nilIface 32 rfl hB.size (by unfold maxLen; omega)⟩ ((Below.refl _ _).alloc (Nat.le_refl _) _))
    simp only [execOp]
    rw [Sem.run_bind, show (Instr.makeSlice 63 (a.eval (.const (.int .i64 0))) (a.eval (.const (.int .i64 32)))).run Tryf.prog w1 = _ from ho]
    rfl
  · intro a w1 K hB hold hdep hK
    clear hold hdep
    obtain ⟨o, ho⟩ := run_make_any 64 42 Tryf.underlying64 16 (by kernel_rfl) (by omega) w1
    refine wp_run (v := .slice (some ⟨w1.heap.size, 0, none⟩) 0 16) (w2 := w1.alloc o) ?_ (hK _ _ ⟨_, _, _, rfl⟩ ((Below.refl _ _).alloc (Nat.le_refl _) _))
    simp only [execOp]
    rw [Sem.run_bind, show (Instr.makeSlice 64 (a.eval (.const (.int .i64 0))) (a.eval (.const (.int .i64 16)))).run Tryf.prog w1 = _ from ho]
    rfl
  · intro a w1 K hB hold hdep hK
    clear hold hdep
    obtain ⟨o, ho⟩ := run_make_any 39 3 Tryf.underlying39 128 (by kernel_rfl) (by omega) w1
    refine wp_run (v := .slice (some ⟨w1.heap.size, 0, none⟩) 0 128) (w2 := w1.alloc o) ?_ (hK _ _ ⟨_, _, _, rfl⟩ ((Below.refl _ _).alloc (Nat.le_refl _) _))
    simp only [execOp]
    rw [Sem.run_bind, show (Instr.makeSlice 39 (a.eval (.const (.int .i64 0))) (a.eval (.const (.int .i64 128)))).run Tryf.prog w1 = _ from ho]
    rfl
  · intro a w1 K hB hold hdep hK
    clear hold hdep
    obtain ⟨o, ho⟩ := run_make_any 65 119 Tryf.underlying65 16 (by kernel_rfl) (by omega) w1
    refine wp_run (v := .slice (some ⟨w1.heap.size, 0, none⟩) 0 16) (w2 := w1.alloc o) ?_ (hK _ _ ⟨_, _, _, rfl⟩ ((Below.refl _ _).alloc (Nat.le_refl _) _))
    simp only [execOp]
    rw [Sem.run_bind, show (Instr.makeSlice 65 (a.eval (.const (.int .i64 0))) (a.eval (.const (.int .i64 16)))).run Tryf.prog w1 = _ from ho]
    rfl
  · intro a w1 K hB hold hdep hK
    clear hold hdep
    obtain ⟨o, ho⟩ := run_make_any 66 154 Tryf.underlying66 128 (by kernel_rfl) (by omega) w1
    refine wp_run (v := .slice (some ⟨w1.heap.size, 0, none⟩) 0 128) (w2 := w1.alloc o) ?_ (hK _ _ ⟨_, _, _, rfl⟩ ((Below.refl _ _).alloc (Nat.le_refl _) _))
    simp only [execOp]
    rw [Sem.run_bind, show (Instr.makeSlice 66 (a.eval (.const (.int .i64 0))) (a.eval (.const (.int .i64 128)))).run Tryf.prog w1 = _ from ho]
    rfl
  · intro a w1 K hB hold hdep hK
    clear hold hdep
    obtain ⟨o, ho⟩ := run_make_any 22 9 Tryf.underlying22 16 (by kernel_rfl) (by omega) w1
    refine wp_run (v := .slice (some ⟨w1.heap.size, 0, none⟩) 0 16) (w2 := w1.alloc o) ?_ (hK _ _ ⟨_, _, _, rfl⟩ ((Below.refl _ _).alloc (Nat.le_refl _) _))
    simp only [execOp]
    rw [Sem.run_bind, show (Instr.makeSlice 22 (a.eval (.const (.int .i64 0))) (a.eval (.const (.int .i64 16)))).run Tryf.prog w1 = _ from ho]
    rfl
  · intro a w1 K hB hold hdep hK
    clear hold hdep
    obtain ⟨o, ho⟩ := run_make_any 22 9 Tryf.underlying22 32 (by kernel_rfl) (by omega) w1
    refine wp_run (v := .slice (some ⟨w1.heap.size, 0, none⟩) 0 32) (w2 := w1.alloc o) ?_ (hK _ _ ⟨_, _, _, rfl⟩ ((Below.refl _ _).alloc (Nat.le_refl _) _))
    simp only [execOp]
    rw [Sem.run_bind, show (Instr.makeSlice 22 (a.eval (.const (.int .i64 0))) (a.eval (.const (.int .i64 32)))).run Tryf.prog w1 = _ from ho]
    rfl
  · intro a w1 K hB hold hdep hK
    clear hold
    obtain ⟨v3, h3, rfl⟩ := hdep ⟨0, .data⟩ (by simp) rfl _ 3 rfl rfl
    obtain ⟨v4, h4, A4, n4, c4, rfl⟩ := hdep ⟨1, .data⟩ (by simp) rfl _ 4 rfl rfl
    obtain ⟨v5, h5, g, rfl, hown⟩ := hdep ⟨2, .data⟩ (by simp) rfl _ 5 rfl rfl
    obtain ⟨v6, h6, A6, n6, c6, rfl⟩ := hdep ⟨3, .data⟩ (by simp) rfl _ 6 rfl rfl
    obtain ⟨v7, h7, A7, n7, c7, rfl⟩ := hdep ⟨4, .data⟩ (by simp) rfl _ 7 rfl rfl
    obtain ⟨v8, h8, A8, n8, c8, rfl⟩ := hdep ⟨5, .data⟩ (by simp) rfl _ 8 rfl rfl
    obtain ⟨v9, h9, A9, n9, c9, rfl⟩ := hdep ⟨6, .data⟩ (by simp) rfl _ 9 rfl rfl
    obtain ⟨v10, h10, A10, n10, c10, rfl⟩ := hdep ⟨7, .data⟩ (by simp) rfl _ 10 rfl rfl
    obtain ⟨v11, h11, A11, n11, c11, rfl⟩ := hdep ⟨8, .data⟩ (by simp) rfl _ 11 rfl rfl
    clear hdep
    refine wp_run (v := .agg #[.string nm, .int .i64 0, .int .i64 0, .int .u8 0, .int .u8 0, .int .u8 0, .int .u8 2, .slice A4 n4 c4, .slice (some ⟨g, 0, none⟩) 0 32, .slice A6 n6 c6, .slice A7 n7 c7, .slice A8 n8 c8, .slice A9 n9 c9, .slice A10 n10 c10, .slice A11 n11 c11]) (w2 := w1) ?_ (hK _ _ ⟨_, g, rfl, rfl, hown⟩ (Below.refl _ _))
    clear hK hown
    simp only [execOp]
    rw [Sem.run_bind]
    simp only [List.map_toArray, List.map_cons, List.map_nil]
    show ((Instr.build 68 #[(0, a.eval (.tmp 3)), (1, .int .i64 0), (2, .int .i64 0), (3, .int .u8 0), (4, .int .u8 0), (5, .int .u8 0), (6, .int .u8 2), (7, a.eval (.tmp 4)), (8, a.eval (.tmp 5)), (9, a.eval (.tmp 6)), (10, a.eval (.tmp 7)), (11, a.eval (.tmp 8)), (12, a.eval (.tmp 9)), (13, a.eval (.tmp 10)), (14, a.eval (.tmp 11))]).run Tryf.prog w1).andThen _ = _
    rw [tmp_of h3, tmp_of h4, tmp_of h5, tmp_of h6, tmp_of h7, tmp_of h8, tmp_of h9, tmp_of h10, tmp_of h11]
    have hb : (Instr.build 68 #[(0, (.string nm)), (1, .int .i64 0), (2, .int .i64 0), (3, .int .u8 0), (4, .int .u8 0), (5, .int .u8 0), (6, .int .u8 2), (7, .slice A4 n4 c4), (8, .slice (some ⟨g, 0, none⟩) 0 32), (9, .slice A6 n6 c6), (10, .slice A7 n7 c7), (11, .slice A8 n8 c8), (12, .slice A9 n9 c9), (13, .slice A10 n10 c10), (14, .slice A11 n11 c11)]).run Tryf.prog w1 = .ok (.agg #[.string nm, .int .i64 0, .int .i64 0, .int .u8 0, .int .u8 0, .int .u8 0, .int .u8 2, .slice A4 n4 c4, .slice (some ⟨g, 0, none⟩) 0 32, .slice A6 n6 c6, .slice A7 n7 c7, .slice A8 n8 c8, .slice A9 n9 c9, .slice A10 n10 c10, .slice A11 n11 c11]) w1 := by kernel_rfl
    rw [hb]
    rfl
  · intro a w1 K hB hold hdep hK
    clear hold
    obtain ⟨v, hv, C, g, rfl, hC, hown⟩ := hdep ⟨9, .data⟩ (by simp) rfl _ 12 rfl rfl
    clear hdep
    have hblk : Blk (w1.alloc (.cells C 68)) w1.heap.size 68 C := Blk.new _ _ _
    have hb : Below w1.heap.size w1 (w1.alloc (.cells C 68)) := (Below.refl _ _).alloc (Nat.le_refl _) _
    refine wp_run (v := .pointer (some ⟨w1.heap.size, 0, none⟩)) (w2 := w1.alloc (.cells C 68)) ?_ (hK _ _ ⟨_, rfl, g, 32, C, hB.size, by simp, hblk, hC, own_below hown hb⟩ hb)
    clear hK hown
    simp only [execOp]
    rw [tmp_of hv]
    rfl
  · intro a w1 K hB hold hdep hK
    clear hold
    obtain ⟨v, hv, p, rfl, hp⟩ := hdep ⟨10, .data⟩ (by simp) rfl _ 13 rfl rfl
    clear hdep
    refine wp_run (v := .pointer (some ⟨p, 0, none⟩)) (w2 := w1) ?_ (hK _ _ ⟨_, rfl, hp⟩ (Below.refl _ _))
    simp only [execOp]
    rw [tmp_of hv]
    rfl
  · intro a w1 hsz hdef hB hold hdone
    obtain ⟨v, hv, p, rfl, hp⟩ := hdone 11 _ 2 rfl rfl
    clear hold hdone
    have HP := Lib.hid hp
    have HB : Hid (Below w.heap.size w w1) := ((Below.refl _ _).drew).trans hB
    clear hp hB
    obtain ⟨T, D⟩ := a
    obtain ⟨x0, x1, x2, x3, x4, x5, x6, x7, x8, x9, x10, x11, x12, x13, hT⟩ := spelt_array (T := T) hsz
    subst hT
    obtain rfl : x2 = .pointer (some ⟨p, 0, none⟩) := by simpa using hv
    obtain rfl : D = [] := hdef
    clear hv hsz
    go_wp2
    go_ret
    exact ⟨_, rfl, HP.out, HB.out⟩
end Go.Proofs.YtofbdaicahngfaaFmt
