/-
  The law that names are told apart by their paths alone.
-/
import Derived.Test.YtnijgncgholeoaaFmtF
import Derived.Test.YtnijgncgholeoaaFmtL
import Derived.Deep.OwnRows
namespace Go.Proofs.YtnijgncgholeoaaFmt
open Go.ChangeShapes Go.WideShapes Go.ChangeAt Go.RowKit Go.Kit
open Go.Extern.Stop Go.Stop Go.Extern
set_option linter.unusedVariables false

theorem info5 : (Tryf.prog.info? 5).map (fun i => (i.zero, i.size, i.bytes)) = some (some (.int .u8 0), 1, 1) := by kernel_rfl
theorem noBufio (v : Value) (w : World) : (Instr.typeAssert (.iface 60 v) 31 53 true).run Tryf.prog w = .ok (.tuple #[.pointer none, .bool false]) w := by kernel_rfl

set_option maxRecDepth 100000 in
theorem newRead_c (s : ByteArray) (c : Bool) (w : World) : Calls Tryf.prog 9 #[.string s, .string { data := #[] }, .bool c] w (Made w s) := by
  have hmk : ∀ W : World, (Instr.makeSlice 48 (.int .i64 4096) (.int .i64 4096)).run Tryf.prog W = .ok (.slice (some ⟨W.heap.size, 0, none⟩) 4096 4096) (W.alloc (.cells (madeCells #[.int .u8 0] 4096) 5)) :=
    fun W => run_make_row' (P := Tryf.prog) 48 5 (.int .u8 0) 1 Tryf.underlying48 info5 rfl .i64 .i64 4096 (by decide) (by decide) W
  have has := noBufio
  generalize madeCells #[.int .u8 0] 4096 = C at hmk
  go_enter Tryf.func9, Tryf.ntmps9
  go_wp2_with (first | (go_at_call 11; go_in) | (go_at_call 12; go_in) | (go_at_call 16; go_in))
  go_end0
  go_wp2_with fail
  go_ret
  refine ⟨w.heap.size + 4, w.heap.size, rfl, ?_, ?_, ?_, ?_⟩
  · go_simp
  · go_simp
  · go_simp
  · repeat (first | exact Below.refl _ _ | refine Below.alloc ?_ (by simp <;> omega) _ | refine Below.setCell ?_ (by simp <;> omega) _)

theorem bytes8_yes (s t : ByteArray) (c1 c2 c3 c4 : Bool) (w : World) (h : s.size + t.size ≤ 1048576) : Calls Tryf.prog 8 #[.string s, .string t, .bool c1, .bool c2, .bool c3, .bool c4] w fun e w' => e = .returned (.bool true) ∧ w = w' := by
  have h1 : s.size ≤ 1048576 := by omega
  have h2 : t.size ≤ 1048576 := by omega
  go_enter Tryf.func8, Tryf.ntmps8
  go_wp2
  go_ret
  exact ⟨rfl, rfl⟩
theorem bytes8_no (s t : ByteArray) (c1 c2 c3 c4 : Bool) (w : World) (hm : s.size ≤ 9223372036854775807) (hn : t.size ≤ 9223372036854775807) (h : ¬ s.size + t.size ≤ 1048576) : Calls Tryf.prog 8 #[.string s, .string t, .bool c1, .bool c2, .bool c3, .bool c4] w fun e w' => e = .returned (.bool false) ∧ w = w' := by
  by_cases h1 : s.size ≤ 1048576
  · by_cases h2 : t.size ≤ 1048576
    · have h' : 1048576 < s.size + t.size := by omega
      clear h
      go_enter Tryf.func8, Tryf.ntmps8
      go_wp2
      go_ret
      exact ⟨rfl, rfl⟩
    · have h' : 1048576 < t.size := by omega
      clear h2 h
      go_enter Tryf.func8, Tryf.ntmps8
      go_wp2
      go_ret
      exact ⟨rfl, rfl⟩
  · have h' : 1048576 < s.size := by omega
    clear h1 h
    go_enter Tryf.func8, Tryf.ntmps8
    go_wp2
    go_ret
    exact ⟨rfl, rfl⟩

theorem bytes_eq_of {a b : ByteArray} (h : (a.toList == b.toList) = true) : a = b := by
  rw [ByteArray.toList_eq, ByteArray.toList_eq] at h
  exact ByteArray.ext (Array.ext' (by simpa using h))
theorem same_names (s t : ByteArray) : (((⟨#[112, 114, 111, 99, 101, 115, 115, 32]⟩ ++ s : ByteArray).toList == (⟨#[112, 114, 111, 99, 101, 115, 115, 32]⟩ ++ t : ByteArray).toList) == (s.toList == t.toList)) = true := by
  by_cases e : s = t
  · subst e; simp
  · have h1 : (s.toList == t.toList) = false := by
      cases h : (s.toList == t.toList) with
      | false => rfl
      | true => exact absurd (bytes_eq_of h) e
    have h2 : ((⟨#[112, 114, 111, 99, 101, 115, 115, 32]⟩ ++ s : ByteArray).toList == (⟨#[112, 114, 111, 99, 101, 115, 115, 32]⟩ ++ t : ByteArray).toList) = false := by
      cases h : ((⟨#[112, 114, 111, 99, 101, 115, 115, 32]⟩ ++ s : ByteArray).toList == (⟨#[112, 114, 111, 99, 101, 115, 115, 32]⟩ ++ t : ByteArray).toList) with
      | false => rfl
      | true =>
        refine absurd ?_ e
        have h3 := congrArg (fun z : ByteArray => z.data.toList) (bytes_eq_of h)
        simp at h3
        exact ByteArray.ext h3
    rw [h1, h2]
    rfl

set_option maxHeartbeats 1000000 in
set_option maxRecDepth 100000 in
theorem law_inj (F : Interp) (s t : ByteArray) (x1 x2 x3 x4 : Bool) (w : World) (hF : F.told.answers w.tape) (hs : s.size ≤ maxLen) (ht : t.size ≤ maxLen) :
    Calls Tryf.prog 4 #[.string s, .string t, .bool x1, .bool x2, .bool x3, .bool x4] w fun e w' => e = .returned (.bool true) ∧ Below w.heap.size w w' := by
  have hm : s.size ≤ 9223372036854775807 := by unfold maxLen at hs; omega
  have hn : t.size ≤ 9223372036854775807 := by unfold maxLen at ht; omega
  by_cases h : s.size + t.size ≤ 1048576
  · have hs1 : s.size ≤ 1048576 := by omega
    have ht1 : t.size ≤ 1048576 := by omega
    cases x1
    · go_enter Tryf.func4, Tryf.ntmps4
      go_wp2_with fail
      refine (bytes8_yes s t _ _ _ _ w h).mono ?_; rintro e w' ⟨rfl, rfl⟩
      go_wp2_with fail
      refine (newProc_c s _ w).mono ?_; rintro e w1 ⟨d, b, rfl, c0, c1, c2, b1⟩
      have B1 := Lib.hid b1
      clear b1
      have hF1 : F.told.answers w1.tape := by rw [B1.out.tape]; exact hF
      go_wp2_with fail
      refine (name_c F d b s w1 hs1 hF1 c0 c1 c2).mono ?_; rintro e w2 ⟨rfl, b2⟩
      have B2 := Lib.hid (B1.out.trans (b2.mono B1.out.size))
      clear b2 c0 c1 c2
      cases x2
      · go_wp2_with fail
        refine (newProc_c t _ w2).mono ?_; rintro e w3 ⟨d', b', rfl, c0, c1, c2, b3⟩
        have B3 := Lib.hid (B2.out.trans (b3.mono B2.out.size))
        clear b3
        have hF3 : F.told.answers w3.tape := by rw [B3.out.tape]; exact hF
        go_wp2_with fail
        refine (name_c F d' b' t w3 ht1 hF3 c0 c1 c2).mono ?_; rintro e w4 ⟨rfl, b4⟩
        have B4 := Lib.hid (B3.out.trans (b4.mono B3.out.size))
        clear b4 c0 c1 c2
        go_wp2_with fail
        go_ret
        exact ⟨by rw [← same_names s t]; rfl, B4.out⟩
      · go_wp2_with fail
        refine (newRead_c t _ w2).mono ?_; rintro e w3 ⟨d', b', rfl, c0, c1, c2, b3⟩
        have B3 := Lib.hid (B2.out.trans (b3.mono B2.out.size))
        clear b3
        have hF3 : F.told.answers w3.tape := by rw [B3.out.tape]; exact hF
        go_wp2_with fail
        refine (name_c F d' b' t w3 ht1 hF3 c0 c1 c2).mono ?_; rintro e w4 ⟨rfl, b4⟩
        have B4 := Lib.hid (B3.out.trans (b4.mono B3.out.size))
        clear b4 c0 c1 c2
        go_wp2_with fail
        go_ret
        exact ⟨by rw [← same_names s t]; rfl, B4.out⟩
    · go_enter Tryf.func4, Tryf.ntmps4
      go_wp2_with fail
      refine (bytes8_yes s t _ _ _ _ w h).mono ?_; rintro e w' ⟨rfl, rfl⟩
      go_wp2_with fail
      refine (newRead_c s _ w).mono ?_; rintro e w1 ⟨d, b, rfl, c0, c1, c2, b1⟩
      have B1 := Lib.hid b1
      clear b1
      have hF1 : F.told.answers w1.tape := by rw [B1.out.tape]; exact hF
      go_wp2_with fail
      refine (name_c F d b s w1 hs1 hF1 c0 c1 c2).mono ?_; rintro e w2 ⟨rfl, b2⟩
      have B2 := Lib.hid (B1.out.trans (b2.mono B1.out.size))
      clear b2 c0 c1 c2
      cases x2
      · go_wp2_with fail
        refine (newProc_c t _ w2).mono ?_; rintro e w3 ⟨d', b', rfl, c0, c1, c2, b3⟩
        have B3 := Lib.hid (B2.out.trans (b3.mono B2.out.size))
        clear b3
        have hF3 : F.told.answers w3.tape := by rw [B3.out.tape]; exact hF
        go_wp2_with fail
        refine (name_c F d' b' t w3 ht1 hF3 c0 c1 c2).mono ?_; rintro e w4 ⟨rfl, b4⟩
        have B4 := Lib.hid (B3.out.trans (b4.mono B3.out.size))
        clear b4 c0 c1 c2
        go_wp2_with fail
        go_ret
        exact ⟨by rw [← same_names s t]; rfl, B4.out⟩
      · go_wp2_with fail
        refine (newRead_c t _ w2).mono ?_; rintro e w3 ⟨d', b', rfl, c0, c1, c2, b3⟩
        have B3 := Lib.hid (B2.out.trans (b3.mono B2.out.size))
        clear b3
        have hF3 : F.told.answers w3.tape := by rw [B3.out.tape]; exact hF
        go_wp2_with fail
        refine (name_c F d' b' t w3 ht1 hF3 c0 c1 c2).mono ?_; rintro e w4 ⟨rfl, b4⟩
        have B4 := Lib.hid (B3.out.trans (b4.mono B3.out.size))
        clear b4 c0 c1 c2
        go_wp2_with fail
        go_ret
        exact ⟨by rw [← same_names s t]; rfl, B4.out⟩
  · have H := Lib.hid h
    clear h
    go_enter Tryf.func4, Tryf.ntmps4
    go_wp2_with fail
    refine (bytes8_no s t x1 x2 x3 x4 w hm hn H.out).mono ?_; rintro e w' ⟨rfl, rfl⟩
    go_wp2_with fail
    go_ret
    exact ⟨rfl, Below.refl _ _⟩
end Go.Proofs.YtnijgncgholeoaaFmt
