/-
  Proved: adding a label under a name answers what looking the name up answered just before, and afterwards the name has the old label if there was one, else the one just added.
  Conditions: none; it is the given statement Rows.FnGetLabelAgreesWithAddSaid, for every input of the Go function n005_154.FnGetLabelAgreesWithAdd.
  The walk through the Go text is the theorem law_agree; here is the row's step alone.
-/
import Derived.Test.YtofbdaicahngfaaRows
import Derived.Test.YtofbdaicahngfaaAdd
import Derived.WalkKit
import Derived.ProofKit
import Derived.OpenShut
import Derived.ShutString
import Derived.ChangeOld
import Derived.Below
import Derived.Carry
namespace Go.Proofs.Ytofbdaicahngfaa.fnGetLabelAgreesWithAdd
open Go.ChangeShapes Go.WideShapes Go.ChangeAt Go.RowKit Go.Proofs.Ytofbdaicahngfaa
open Go.ChangeMaps (open_string shut_string)
set_option linter.unusedVariables false

theorem own : ownKnob Try.prog.godebug = none := by kernel_rfl
theorem laidOut : laidOutB Try.prog = true := by kernel_rfl

set_option maxRecDepth 100000 in
theorem lifted (os : Os) (started : os.Started) (H : Type) (enc : TypeId × Value → H) :
    ReturnsInHanded {} Try.checked os 4 .any (Rows.fnGetLabelAgreesWithAddSpec.pre6 enc Try.prog Try.f4 Rows.fnGetLabelAgreesWithAddRow.domain false) (Rows.fnGetLabelAgreesWithAddSpec.post enc Try.prog Try.f4 false true false false) := by
  refine returnsInHanded_of_change (C := Try.checked) own started (by kernel_rfl) Try.func4
    (ChangeSpec.witness6 (enc := enc) (C := Try.checked) false ⟨#[], #[.slice none 0 0, .slice none 0 0], []⟩ 8 (by kernel_rfl) (by kernel_rfl) (by kernel_rfl) (by kernel_rfl)) ?_
  intro W base args ds gs before hval0 hW hcnd _
  have hval : ∀ (j : Nat) t v, Try.f4.params[j]? = some t → args[j]? = some v → Value.okWide Try.prog W .any base t v := hval0
  have hW' := hW
  obtain ⟨p, q, hA0, hV, rfl, hfz, hnd⟩ := hW
  have hA : DataW.TrodAll enc Try.prog W 0 (fun _ => true) true Try.f4.params.toList args.toList ds p := hA0
  rw [Try.params4] at hA hval
  obtain ⟨v0, vs0, d0, ds0, p0, q0, hargs, rfl, rfl, h0, r0⟩ := trodAll_cons hA
  obtain ⟨v1, vs1, d1, ds1, p1, q1, rfl, rfl, rfl, h1, r1⟩ := trodAll_cons r0
  obtain ⟨rfl, rfl, rfl⟩ := trodAll_nil r1
  obtain rfl : args = #[v0, v1] := by cases args; simp_all
  obtain ⟨rfl, rfl⟩ := trodVars_none hV
  have k0 := h0
  have lt0 : ∀ x ∈ p0, x.block < W.heap.size := by obtain ⟨m, hm⟩ := k0; exact DataW.trod_lt m _ _ _ hm
  have k1 := h1
  have lt1 : ∀ x ∈ p1, x.block < W.heap.size := by obtain ⟨m, hm⟩ := k1; exact DataW.trod_lt m _ _ _ hm
  obtain ⟨A0, n0, c0, rfl⟩ := okWide_slice Try.underlying22 (hval 0 22 v0 rfl rfl)
  obtain ⟨xs0, g0, el0⟩ := open_arg Try.underlying22 (by kernel_rfl) h0
  obtain ⟨z0, rfl, wz0⟩ := strings_of Try.underlying9 xs0 el0
  obtain ⟨A1, n1, c1, rfl⟩ := okWide_slice Try.underlying22 (hval 1 22 v1 rfl rfl)
  obtain ⟨xs1, g1, el1⟩ := open_arg Try.underlying22 (by kernel_rfl) h1
  obtain ⟨z1, rfl, wz1⟩ := strings_of Try.underlying9 xs1 el1
  clear hA0 hval0
  refine (law_agree A0 n0 c0 z0 A1 n1 c1 z1 W g0 wz0 g1 wz1).mono fun e W' ⟨he, bel⟩ => ?_
  subst he
  exact ⟨_, rfl, _, _, _, [], _, [], hW', trodAll_mk1 (shut_bool Try.underlying4 _), (trodAll_cons_mk (Below.trod laidOut (by kernel_rfl) (of_decide_eq_true (by kernel_rfl)) k0 bel lt0) (trodAll_cons_mk (Below.trod laidOut (by kernel_rfl) (of_decide_eq_true (by kernel_rfl)) k1 bel lt1) trodAll_mk0)), rfl, bel.frame _, fun h => by cases h⟩

theorem at_func : Try.pinned.checked.prog.funcNamed Rows.fnGetLabelAgreesWithAddRow.func = some 4 := by kernel_rfl
theorem at_joined : joinedFacts Try.pinned.checked.prog 4 Try.f4 Rows.fnGetLabelAgreesWithAddSpec Rows.fnGetLabelAgreesWithAddRow = true := by kernel_rfl
theorem at_inst : Try.f4.isInstance Try.pinned.checked.prog Rows.fnGetLabelAgreesWithAddRow.origin Rows.fnGetLabelAgreesWithAddRow.targs := of_decide_eq_true (by kernel_rfl)
theorem at_wrap : Try.f4.isWrapper Try.pinned.checked.prog Rows.fnGetLabelAgreesWithAddRow.wrapper Rows.fnGetLabelAgreesWithAddRow.mainSum := by unfold Func.isWrapper; first | (rw [if_pos (by decide +kernel)]; kernel_rfl) | (rw [if_neg (by decide +kernel)]; exact ⟨rfl, rfl⟩)

theorem over : Rows.fnGetLabelAgreesWithAddRow.holds Try.pinned (OpenSpec.ofChange Rows.fnGetLabelAgreesWithAddSpec) :=
  OpenClaim.holds_of_wide 4 Try.f4 rfl rfl rfl rfl rfl rfl rfl ⟨rfl, rfl, rfl, rfl, rfl⟩ rfl rfl rfl rfl rfl at_func Try.func4 at_joined at_inst at_wrap
    (fun os started H enc _ => lifted os started H enc)

theorem proved : Rows.FnGetLabelAgreesWithAddSaid := over
#print axioms proved
end Go.Proofs.Ytofbdaicahngfaa.fnGetLabelAgreesWithAdd
