/-
  The laws on lFile.Name of a process.
-/
import Derived.Test.YtnijgncgholeoaaFmtF
namespace Go.Proofs.YtnijgncgholeoaaFmt
open Go.RowKit Go.Extern.Stop Go.Stop Go.Extern
set_option linter.unusedVariables false

def SomeB (w : World) (e : Ending) (w' : World) : Prop := ∃ b, e = .returned (.bool b) ∧ w = w'
theorem bytes5_c (s : ByteArray) (c : Bool) (w : World) (hm : s.size ≤ 9223372036854775807) : Calls Tryf.prog 5 #[.string s, .bool c] w (SomeB w) := by
  by_cases h : s.size ≤ 1048576
  · go_enter Tryf.func5, Tryf.ntmps5
    go_wp2
    go_ret
    exact ⟨_, rfl, rfl⟩
  · have h' : 1048576 < s.size := by omega
    clear h
    go_enter Tryf.func5, Tryf.ntmps5
    go_wp2
    go_ret
    exact ⟨_, rfl, rfl⟩

set_option maxRecDepth 100000 in
theorem law_name (F : Interp) (s : ByteArray) (c : Bool) (w : World) (hF : F.told.answers w.tape) (hs : s.size ≤ maxLen) :
    Calls Tryf.prog 3 #[.string s, .bool c] w fun e w' => e = .returned (.bool true) ∧ Below w.heap.size w w' := by
  have hm : s.size ≤ 9223372036854775807 := by unfold maxLen at hs; omega
  by_cases h : s.size ≤ 1048576
  · go_enter Tryf.func3, Tryf.ntmps3
    go_wp2_with fail
    refine (bytes5_c s c w hm).mono ?_; rintro e w' ⟨b, rfl, rfl⟩
    cases b
    · go_wp2_with fail
      go_ret
      exact ⟨rfl, Below.refl _ _⟩
    go_wp2_with fail
    refine (newProc_c s c w).mono ?_; rintro e w1 ⟨d, b, rfl, c0, c1, c2, b1⟩
    have B1 := Lib.hid b1
    clear b1
    have hF1 : F.told.answers w1.tape := by rw [B1.out.tape]; exact hF
    go_wp2_with fail
    refine (name_c F d b s w1 h hF1 c0 c1 c2).mono ?_; rintro e w2 ⟨rfl, b2⟩
    have B2 := Lib.hid (B1.out.trans (b2.mono B1.out.size))
    clear b2 c0 c1 c2
    have hz : (⟨#[112, 114, 111, 99, 101, 115, 115, 32]⟩ ++ s : ByteArray).size = 8 + s.size := by rw [ByteArray.size_append]; rfl
    have hm2 : (⟨#[112, 114, 111, 99, 101, 115, 115, 32]⟩ ++ s : ByteArray).size ≤ 1048584 := by rw [hz]; omega
    go_wp2_with fail
    clear hz
    generalize (⟨#[112, 114, 111, 99, 101, 115, 115, 32]⟩ ++ s : ByteArray) = q at *
    go_loopw [8] (fun i wr => ∃ k : Nat, k ≤ q.size ∧ i = .int .i64 k ∧ Hid (Below w.heap.size w wr)) (fun i _ => q.size - (intOf i).toNat)
    case atStart => exact ⟨0, Nat.zero_le _, rfl, B2.out⟩
    case round =>
      obtain ⟨k, hk, rfl, hB⟩ := hrel
      by_cases hlt : k < q.size
      · have i0 : (0 : Int) ≤ (k : Int) := by omega
        have i1 : (k : Int) < (q.size : Int) := by omega
        go_wp2_with fail
        go_quiet (fail)
        go_wp2_with fail
        go_roundw
        case rel => exact ⟨k + 1, by omega, by go_num, below_drewN hB.out _⟩
        case measure => simp [intOf]; omega
      · obtain rfl : k = q.size := by omega
        go_wp2_with fail
        go_ret
        exact ⟨rfl, hB.out⟩
  · have h' : 1048576 < s.size := by omega
    clear h
    go_enter Tryf.func3, Tryf.ntmps3
    go_wp2_with fail
    refine (bytes5_c s c w hm).mono ?_; rintro e w' ⟨b, rfl, rfl⟩
    cases b
    all_goals
      go_wp2_with fail
      go_ret
      exact ⟨rfl, Below.refl _ _⟩
end Go.Proofs.YtnijgncgholeoaaFmt
