/-
  fmt's front on this road, its one format, and the walks through the makers of an lFile and through its Name.
-/
import Derived.Test.YtnijgncgholeoaaFmtRows
import Derived.Test.YtnijgncgholeoaaFmtBase
import Derived.Stop.CallBack
import Derived.Stop.IfaceNil
import Derived.Stop.FmtTextKit
import Derived.Stop.JoinedTold
import Derived.Stop.JoinedAt
import Derived.Stop.Texts
import Derived.WalkSpells
import Derived.Outline
namespace Go.Proofs.YtnijgncgholeoaaFmt
open Go.ChangeShapes Go.WideShapes Go.ChangeAt Go.RowKit Go.Kit
open Go.Extern.Stop Go.Stop Go.Extern
set_option linter.unusedVariables false

/-- fmt.Sprintf: function 14. -/
theorem call14 (args : Array Value) (w : World) : (callFunc 14 args).run Tryf.prog w = ((FmtStop.sprintf #[9, 146] #[9] args).run Tryf.prog w).andThen fun v w' => .ok (.value v) w' :=
  run_callFunc_extern Tryf.func14 (by kernel_rfl) (by kernel_rfl) (by kernel_rfl) (by kernel_rfl) args w
theorem guard14 (name : String) (w : World) : (FmtStop.guard name).run Tryf.prog w = .ok () w := by kernel_rfl
/-- The format "process %s". -/
theorem fmtP : FmtStop.printed? ⟨#[112, 114, 111, 99, 101, 115, 115, 32, 37, 115]⟩ 1 = some [(0, 115, false)] := by kernel_rfl
theorem fmtPr (w : World) : (FmtDoors.printed ⟨#[112, 114, 111, 99, 101, 115, 115, 32, 37, 115]⟩ 1).run Tryf.prog w = .ok [(0, 115, false)] w := by kernel_rfl
def shape9 : List UInt8 := [12, 6, 0, 0, 0, 0, 0, 0, 0, 115, 116, 114, 105, 110, 103]
theorem op9 (name : String) (x : ByteArray) (w : World) : (FmtStop.operand name false 115 false (.iface 9 (.string x))).run Tryf.prog w = .ok (shape9, FmtStop.pack x.data.toList) w := by kernel_rfl
attribute [local go_sem] call14 guard14 fmtP fmtPr op9

/-- What fmt.Sprintf is asked. -/
def reading (s : List UInt8) : List (List UInt8) := [[112, 114, 111, 99, 101, 115, 115, 32, 37, 115], shape9, FmtStop.pack s]
def text (s : List UInt8) : List UInt8 := [112, 114, 111, 99, 101, 115, 115, 32] ++ s
theorem parseP : (FmtText.parse [112, 114, 111, 99, 101, 115, 115, 32, 37, 115]).map FmtText.glue = some [.lit [112, 114, 111, 99, 101, 115, 115, 32], .verb {} 115] := by rfl
theorem text_ok (s : List UInt8) (hs : s.length < 2 ^ 64) : FmtText.text "fmt.Sprintf" (reading s) = some (text s) := by
  have hn := FmtText.operand_str_at (sh := shape9) rfl rfl s hs
  rw [reading, FmtText.text_sprintf_glued parseP (FmtText.operands_cons hn FmtText.operands_nil)]
  simp [FmtText.render, FmtText.printArg_s_str, text]
/-- fmt's text, told, is the word and the path. -/
theorem told_ok (F : Interp) (s : ByteArray) (hs : s.size ≤ 1048576) : FmtStop.textOf (F.told "fmt.Sprintf" (reading s.data.toList) 0) = ⟨#[112, 114, 111, 99, 101, 115, 115, 32]⟩ ++ s := by
  have hl : s.data.toList.length = s.size := by rw [Array.length_toList]; rfl
  have ht := told_string F (text_ok s.data.toList (by omega)) (by simp [text]; omega)
  have he := (textOf_list F.told "fmt.Sprintf" (reading s.data.toList)).trans ht
  apply ByteArray.ext
  apply Array.ext'
  rw [he]
  simp [text]

/-- What a maker leaves: a new file that bears no file pointer, over a process of that path. -/
def Made (w : World) (s : ByteArray) (e : Ending) (w' : World) : Prop := ∃ d b, e = .returned (.pointer (some ⟨d, 0, none⟩)) ∧ w'.cell? ⟨d, 0, none⟩ = some (.pointer none) ∧ w'.cell? ⟨d, 1, none⟩ = some (.pointer (some ⟨b, 0, none⟩)) ∧ w'.cell? ⟨b, 0, none⟩ = some (.string s) ∧ Below w.heap.size w w'
theorem newProc_c (s : ByteArray) (c : Bool) (w : World) : Calls Tryf.prog 6 #[.string s, .bool c] w (Made w s) := by
  go_enter Tryf.func6, Tryf.ntmps6
  go_wp2
  go_ret
  refine ⟨w.heap.size + 1, w.heap.size, rfl, ?_, ?_, ?_, ?_⟩
  · go_simp
  · go_simp
  · go_simp
  · repeat (first | exact Below.refl _ _ | refine Below.alloc ?_ (by simp <;> omega) _)

theorem name_c (F : Interp) (d b : Nat) (s : ByteArray) (w : World) (hs : s.size ≤ 1048576) (hF : F.told.answers w.tape) (h0 : w.cell? ⟨d, 0, none⟩ = some (.pointer none)) (h1 : w.cell? ⟨d, 1, none⟩ = some (.pointer (some ⟨b, 0, none⟩))) (h2 : w.cell? ⟨b, 0, none⟩ = some (.string s)) :
    Calls Tryf.prog 7 #[.pointer (some ⟨d, 0, none⟩)] w fun e w' => e = .returned (.string (⟨#[112, 114, 111, 99, 101, 115, 115, 32]⟩ ++ s)) ∧ Below w.heap.size w w' := by
  have ht := Lib.hid (told_ok F s hs)
  have hF' := answers_open hF
  go_enter Tryf.func7, Tryf.ntmps7
  go_wp2_with (first | (go_at_call 10; go_in) | (go_at_call 13; go_in))
  go_ret
  refine ⟨by rw [← ht.out]; rfl, ?_⟩
  repeat (first | exact Below.refl _ _ | refine Below.drew ?_ | refine Below.alloc ?_ (by simp <;> omega) _)
end Go.Proofs.YtnijgncgholeoaaFmt
