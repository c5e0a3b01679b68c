/-
  Proved: at every step of building a chain of code blocks the count of local variables along it is the sum of the registered names, and the last index of the newest pool is that sum too.
  Conditions: none; it is the given statement Rows.FnNewCodeBlockChainCountSaid, for every input of the Go function n005_154.FnNewCodeBlockChainCount.
  The walk through the Go text is the theorem law_chain; here is the row's step alone.
-/
import Derived.Test.YtofbdaicahngfaaRows
import Derived.Test.YtofbdaicahngfaaCount
import Derived.WalkKit
import Derived.ProofKit
import Derived.OpenShut
import Derived.ShutString
import Derived.ChangeOld
import Derived.Below
import Derived.Carry
namespace Go.Proofs.Ytofbdaicahngfaa.fnNewCodeBlockChainCount
open Go.ChangeShapes Go.WideShapes Go.ChangeAt Go.RowKit Go.Proofs.Ytofbdaicahngfaa
open Go.ChangeMaps (open_string shut_string)
set_option linter.unusedVariables false

theorem own : ownKnob Try.prog.godebug = none := by kernel_rfl
theorem laidOut : laidOutB Try.prog = true := by kernel_rfl

set_option maxRecDepth 100000 in
theorem lifted (os : Os) (started : os.Started) (H : Type) (enc : TypeId × Value → H) :
    ReturnsInHanded {} Try.checked os 5 .any (Rows.fnNewCodeBlockChainCountSpec.pre6 enc Try.prog Try.f5 Rows.fnNewCodeBlockChainCountRow.domain false) (Rows.fnNewCodeBlockChainCountSpec.post enc Try.prog Try.f5 false true false false) := by
  refine returnsInHanded_of_change (C := Try.checked) own started (by kernel_rfl) Try.func5
    (ChangeSpec.witness6 (enc := enc) (C := Try.checked) false ⟨#[], #[.slice none 0 0], []⟩ 8 (by kernel_rfl) (by kernel_rfl) (by kernel_rfl) (by kernel_rfl)) ?_
  intro W base args ds gs before hval0 hW hcnd _
  have hval : ∀ (j : Nat) t v, Try.f5.params[j]? = some t → args[j]? = some v → Value.okWide Try.prog W .any base t v := hval0
  have hW' := hW
  obtain ⟨p, q, hA0, hV, rfl, hfz, hnd⟩ := hW
  have hA : DataW.TrodAll enc Try.prog W 0 (fun _ => true) true Try.f5.params.toList args.toList ds p := hA0
  rw [Try.params5] at hA hval
  obtain ⟨v0, vs0, d0, ds0, p0, q0, hargs, rfl, rfl, h0, r0⟩ := trodAll_cons hA
  obtain ⟨rfl, rfl, rfl⟩ := trodAll_nil r0
  obtain rfl : args = #[v0] := by cases args; simp_all
  obtain ⟨rfl, rfl⟩ := trodVars_none hV
  have k0 := h0
  have lt0 : ∀ x ∈ p0, x.block < W.heap.size := by obtain ⟨m, hm⟩ := k0; exact DataW.trod_lt m _ _ _ hm
  obtain ⟨A0, n0, c0, rfl⟩ := okWide_slice Try.underlying43 (hval 0 43 v0 rfl rfl)
  obtain ⟨xs0, g0, el0⟩ := open_arg Try.underlying43 (by kernel_rfl) h0
  obtain ⟨z0, rfl, wz0⟩ := ints_of Try.underlying3 xs0 el0
  clear hA0 hval0
  refine (law_chain A0 n0 c0 z0 W g0 (fun x hx => bounds_i64 (wz0 x hx))).mono fun e W' ⟨he, bel⟩ => ?_
  subst he
  exact ⟨_, rfl, _, _, _, [], _, [], hW', trodAll_mk1 (shut_bool Try.underlying4 _), (trodAll_cons_mk (Below.trod laidOut (by kernel_rfl) (of_decide_eq_true (by kernel_rfl)) k0 bel lt0) trodAll_mk0), rfl, bel.frame _, fun h => by cases h⟩

theorem at_func : Try.pinned.checked.prog.funcNamed Rows.fnNewCodeBlockChainCountRow.func = some 5 := by kernel_rfl
theorem at_joined : joinedFacts Try.pinned.checked.prog 5 Try.f5 Rows.fnNewCodeBlockChainCountSpec Rows.fnNewCodeBlockChainCountRow = true := by kernel_rfl
theorem at_inst : Try.f5.isInstance Try.pinned.checked.prog Rows.fnNewCodeBlockChainCountRow.origin Rows.fnNewCodeBlockChainCountRow.targs := of_decide_eq_true (by kernel_rfl)
theorem at_wrap : Try.f5.isWrapper Try.pinned.checked.prog Rows.fnNewCodeBlockChainCountRow.wrapper Rows.fnNewCodeBlockChainCountRow.mainSum := by unfold Func.isWrapper; first | (rw [if_pos (by decide +kernel)]; kernel_rfl) | (rw [if_neg (by decide +kernel)]; exact ⟨rfl, rfl⟩)

theorem over : Rows.fnNewCodeBlockChainCountRow.holds Try.pinned (OpenSpec.ofChange Rows.fnNewCodeBlockChainCountSpec) :=
  OpenClaim.holds_of_wide 5 Try.f5 rfl rfl rfl rfl rfl rfl rfl ⟨rfl, rfl, rfl, rfl, rfl⟩ rfl rfl rfl rfl rfl at_func Try.func5 at_joined at_inst at_wrap
    (fun os started H enc _ => lifted os started H enc)

theorem proved : Rows.FnNewCodeBlockChainCountSaid := over
#print axioms proved
end Go.Proofs.Ytofbdaicahngfaa.fnNewCodeBlockChainCount
