/-
  Proved: frames pushed later leave the lower frames and their pointers intact, Sp is the number pushed, and unwinding with SetSp finds each frame whole and each pointer again.
  Conditions: none; it is the given statement Rows.FnPushLeavesLowerFramesIntactSaid, for every input of the Go function n005_161.FnPushLeavesLowerFramesIntact.
  The walk through the Go text is the theorem law_frames; here is the row's step alone.
-/
import Derived.Test.YtbjpndoocidfbaaRows
import Derived.Test.YtbjpndoocidfbaaLaw
import Derived.WalkKit
import Derived.ProofKit
import Derived.OpenShut
import Derived.ShutString
import Derived.ChangeOld
import Derived.Below
import Derived.Carry
namespace Go.Proofs.Ytbjpndoocidfbaa.fnPushLeavesLowerFramesIntact
open Go.ChangeShapes Go.WideShapes Go.ChangeAt Go.RowKit Go.Proofs.Ytbjpndoocidfbaa
open Go.ChangeMaps (open_string shut_string)
set_option linter.unusedVariables false

theorem own : ownKnob Try.prog.godebug = none := by kernel_rfl
theorem laidOut : laidOutB Try.prog = true := by kernel_rfl

set_option maxRecDepth 100000 in
theorem lifted (os : Os) (started : os.Started) (H : Type) (enc : TypeId × Value → H) :
    ReturnsInHanded {} Try.checked os 3 .any (Rows.fnPushLeavesLowerFramesIntactSpec.pre6 enc Try.prog Try.f3 Rows.fnPushLeavesLowerFramesIntactRow.domain false) (Rows.fnPushLeavesLowerFramesIntactSpec.post enc Try.prog Try.f3 false true false false) := by
  refine returnsInHanded_of_change (C := Try.checked) own started (by kernel_rfl) Try.func3
    (ChangeSpec.witness6 (enc := enc) (C := Try.checked) false ⟨#[], #[.slice none 0 0, .slice none 0 0], []⟩ 8 (by kernel_rfl) (by kernel_rfl) (by kernel_rfl) (by kernel_rfl)) ?_
  intro W base args ds gs before hval0 hW hcnd _
  have hval : ∀ (j : Nat) t v, Try.f3.params[j]? = some t → args[j]? = some v → Value.okWide Try.prog W .any base t v := hval0
  have hW' := hW
  obtain ⟨p, q, hA0, hV, rfl, hfz, hnd⟩ := hW
  have hA : DataW.TrodAll enc Try.prog W 0 (fun _ => true) true Try.f3.params.toList args.toList ds p := hA0
  rw [Try.params3] at hA hval
  obtain ⟨v0, vs0, d0, ds0, p0, q0, hargs, rfl, rfl, h0, r0⟩ := trodAll_cons hA
  obtain ⟨v1, vs1, d1, ds1, p1, q1, rfl, rfl, rfl, h1, r1⟩ := trodAll_cons r0
  obtain ⟨rfl, rfl, rfl⟩ := trodAll_nil r1
  obtain rfl : args = #[v0, v1] := by cases args; simp_all
  obtain ⟨rfl, rfl⟩ := trodVars_none hV
  have k0 := h0
  have lt0 : ∀ x ∈ p0, x.block < W.heap.size := by obtain ⟨m, hm⟩ := k0; exact DataW.trod_lt m _ _ _ hm
  have k1 := h1
  have lt1 : ∀ x ∈ p1, x.block < W.heap.size := by obtain ⟨m, hm⟩ := k1; exact DataW.trod_lt m _ _ _ hm
  obtain ⟨A0, n0, c0, rfl⟩ := okWide_slice Try.underlying22 (hval 0 22 v0 rfl rfl)
  obtain ⟨xs0, g0, el0⟩ := open_arg Try.underlying22 (by kernel_rfl) h0
  obtain ⟨z0, rfl, wz0⟩ := ints_of Try.underlying3 xs0 el0
  obtain ⟨A1, n1, c1, rfl⟩ := okWide_slice Try.underlying22 (hval 1 22 v1 rfl rfl)
  obtain ⟨xs1, g1, el1⟩ := open_arg Try.underlying22 (by kernel_rfl) h1
  obtain ⟨z1, rfl, wz1⟩ := ints_of Try.underlying3 xs1 el1
  clear hA0 hval0
  refine (law_frames A0 n0 c0 z0 A1 n1 c1 z1 W g0 (fun x hx => bounds_i64 (wz0 x hx)) g1 (fun x hx => bounds_i64 (wz1 x hx))).mono fun e W' ⟨he, bel⟩ => ?_
  subst he
  exact ⟨_, rfl, _, _, _, [], _, [], hW', trodAll_mk1 (shut_bool Try.underlying4 _), (trodAll_cons_mk (Below.trod laidOut (by kernel_rfl) (of_decide_eq_true (by kernel_rfl)) k0 bel lt0) (trodAll_cons_mk (Below.trod laidOut (by kernel_rfl) (of_decide_eq_true (by kernel_rfl)) k1 bel lt1) trodAll_mk0)), rfl, bel.frame _, fun h => by cases h⟩

theorem at_func : Try.pinned.checked.prog.funcNamed Rows.fnPushLeavesLowerFramesIntactRow.func = some 3 := by kernel_rfl
theorem at_joined : joinedFacts Try.pinned.checked.prog 3 Try.f3 Rows.fnPushLeavesLowerFramesIntactSpec Rows.fnPushLeavesLowerFramesIntactRow = true := by kernel_rfl
theorem at_inst : Try.f3.isInstance Try.pinned.checked.prog Rows.fnPushLeavesLowerFramesIntactRow.origin Rows.fnPushLeavesLowerFramesIntactRow.targs := of_decide_eq_true (by kernel_rfl)
theorem at_wrap : Try.f3.isWrapper Try.pinned.checked.prog Rows.fnPushLeavesLowerFramesIntactRow.wrapper Rows.fnPushLeavesLowerFramesIntactRow.mainSum := by unfold Func.isWrapper; first | (rw [if_pos (by decide +kernel)]; kernel_rfl) | (rw [if_neg (by decide +kernel)]; exact ⟨rfl, rfl⟩)

theorem over : Rows.fnPushLeavesLowerFramesIntactRow.holds Try.pinned (OpenSpec.ofChange Rows.fnPushLeavesLowerFramesIntactSpec) :=
  OpenClaim.holds_of_wide 3 Try.f3 rfl rfl rfl rfl rfl rfl rfl ⟨rfl, rfl, rfl, rfl, rfl⟩ rfl rfl rfl rfl rfl at_func Try.func3 at_joined at_inst at_wrap
    (fun os started H enc _ => lifted os started H enc)

theorem proved : Rows.FnPushLeavesLowerFramesIntactSaid := over
#print axioms proved
end Go.Proofs.Ytbjpndoocidfbaa.fnPushLeavesLowerFramesIntact
