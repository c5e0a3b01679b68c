/-
  Proved: the length of the splice is the old length plus what the replacements add, and replacing each replacement in it by the old text gives the string back.
  Conditions: none; it is the given statement Rows.FnGsubDoReplaceUndoneByReverseReplaceSaid, for every input of the Go function n005_4.FnGsubDoReplaceUndoneByReverseReplace.
  The walk through the Go text is the theorem law_undo; here is the row's step alone.
-/
import Derived.Test.YtmlhjgledpglhaaRows
import Derived.Test.YtmlhjgledpglhaaUndo
import Derived.WalkKit
import Derived.ProofKit
import Derived.OpenShut
import Derived.ShutString
import Derived.ChangeOld
import Derived.Below
import Derived.Carry
namespace Go.Proofs.Ytmlhjgledpglhaa.fnGsubDoReplaceUndoneByReverseReplace
open Go.ChangeShapes Go.WideShapes Go.ChangeAt Go.RowKit Go.Proofs.Ytmlhjgledpglhaa
open Go.ChangeMaps (open_string shut_string)
set_option linter.unusedVariables false

theorem own : ownKnob Try.prog.godebug = none := by kernel_rfl
theorem laidOut : laidOutB Try.prog = true := by kernel_rfl

set_option maxRecDepth 100000 in
theorem lifted (os : Os) (started : os.Started) (H : Type) (enc : TypeId × Value → H) :
    ReturnsInHanded {} Try.checked os 10 .any (Rows.fnGsubDoReplaceUndoneByReverseReplaceSpec.pre6 enc Try.prog Try.f10 Rows.fnGsubDoReplaceUndoneByReverseReplaceRow.domain false) (Rows.fnGsubDoReplaceUndoneByReverseReplaceSpec.post enc Try.prog Try.f10 false true false false) := by
  refine returnsInHanded_of_change (C := Try.checked) own started (by kernel_rfl) Try.func10
    (ChangeSpec.witness6 (enc := enc) (C := Try.checked) false ⟨#[], #[.string ByteArray.empty, .slice none 0 0, .slice none 0 0, .slice none 0 0], []⟩ 8 (by kernel_rfl) (by kernel_rfl) (by kernel_rfl) (by kernel_rfl)) ?_
  intro W base args ds gs before hval0 hW hcnd _
  have hval : ∀ (j : Nat) t v, Try.f10.params[j]? = some t → args[j]? = some v → Value.okWide Try.prog W .any base t v := hval0
  have hW' := hW
  obtain ⟨p, q, hA0, hV, rfl, hfz, hnd⟩ := hW
  have hA : DataW.TrodAll enc Try.prog W 0 (fun _ => true) true Try.f10.params.toList args.toList ds p := hA0
  rw [Try.params10] at hA hval
  obtain ⟨v0, vs0, d0, ds0, p0, q0, hargs, rfl, rfl, h0, r0⟩ := trodAll_cons hA
  obtain ⟨v1, vs1, d1, ds1, p1, q1, rfl, rfl, rfl, h1, r1⟩ := trodAll_cons r0
  obtain ⟨v2, vs2, d2, ds2, p2, q2, rfl, rfl, rfl, h2, r2⟩ := trodAll_cons r1
  obtain ⟨v3, vs3, d3, ds3, p3, q3, rfl, rfl, rfl, h3, r3⟩ := trodAll_cons r2
  obtain ⟨rfl, rfl, rfl⟩ := trodAll_nil r3
  obtain rfl : args = #[v0, v1, v2, v3] := by cases args; simp_all
  obtain ⟨rfl, rfl⟩ := trodVars_none hV
  have k0 := h0
  have lt0 : ∀ x ∈ p0, x.block < W.heap.size := by obtain ⟨m, hm⟩ := k0; exact DataW.trod_lt m _ _ _ hm
  have k1 := h1
  have lt1 : ∀ x ∈ p1, x.block < W.heap.size := by obtain ⟨m, hm⟩ := k1; exact DataW.trod_lt m _ _ _ hm
  have k2 := h2
  have lt2 : ∀ x ∈ p2, x.block < W.heap.size := by obtain ⟨m, hm⟩ := k2; exact DataW.trod_lt m _ _ _ hm
  have k3 := h3
  have lt3 : ∀ x ∈ p3, x.block < W.heap.size := by obtain ⟨m, hm⟩ := k3; exact DataW.trod_lt m _ _ _ hm
  obtain ⟨a0, rfl, _, _, w0⟩ := open_string Try.underlying9 (hval 0 9 v0 rfl rfl) h0
  obtain ⟨A1, n1, c1, rfl⟩ := okWide_slice Try.underlying44 (hval 1 44 v1 rfl rfl)
  obtain ⟨xs1, g1, el1⟩ := open_arg Try.underlying44 (by kernel_rfl) h1
  obtain ⟨z1, rfl, wz1⟩ := ints_of Try.underlying3 xs1 el1
  obtain ⟨A2, n2, c2, rfl⟩ := okWide_slice Try.underlying44 (hval 2 44 v2 rfl rfl)
  obtain ⟨xs2, g2, el2⟩ := open_arg Try.underlying44 (by kernel_rfl) h2
  obtain ⟨z2, rfl, wz2⟩ := ints_of Try.underlying3 xs2 el2
  obtain ⟨A3, n3, c3, rfl⟩ := okWide_slice Try.underlying45 (hval 3 45 v3 rfl rfl)
  obtain ⟨xs3, g3, el3⟩ := open_arg Try.underlying45 (by kernel_rfl) h3
  obtain ⟨z3, rfl, wz3⟩ := strings_of Try.underlying9 xs3 el3
  clear hA0 hval0
  refine (law_undo a0 A1 n1 c1 z1 A2 n2 c2 z2 A3 n3 c3 z3 W w0 g1 (fun x hx => bounds_i64 (wz1 x hx)) g2 (fun x hx => bounds_i64 (wz2 x hx)) g3 wz3).mono fun e W' ⟨he, bel⟩ => ?_
  subst he
  exact ⟨_, rfl, _, _, _, [], _, [], hW', trodAll_mk1 (shut_bool Try.underlying4 _), (trodAll_cons_mk (Below.trod laidOut (by kernel_rfl) (of_decide_eq_true (by kernel_rfl)) k0 bel lt0) (trodAll_cons_mk (Below.trod laidOut (by kernel_rfl) (of_decide_eq_true (by kernel_rfl)) k1 bel lt1) (trodAll_cons_mk (Below.trod laidOut (by kernel_rfl) (of_decide_eq_true (by kernel_rfl)) k2 bel lt2) (trodAll_cons_mk (Below.trod laidOut (by kernel_rfl) (of_decide_eq_true (by kernel_rfl)) k3 bel lt3) trodAll_mk0)))), rfl, bel.frame _, fun h => by cases h⟩

theorem at_func : Try.pinned.checked.prog.funcNamed Rows.fnGsubDoReplaceUndoneByReverseReplaceRow.func = some 10 := by kernel_rfl
theorem at_joined : joinedFacts Try.pinned.checked.prog 10 Try.f10 Rows.fnGsubDoReplaceUndoneByReverseReplaceSpec Rows.fnGsubDoReplaceUndoneByReverseReplaceRow = true := by kernel_rfl
theorem at_inst : Try.f10.isInstance Try.pinned.checked.prog Rows.fnGsubDoReplaceUndoneByReverseReplaceRow.origin Rows.fnGsubDoReplaceUndoneByReverseReplaceRow.targs := of_decide_eq_true (by kernel_rfl)
theorem at_wrap : Try.f10.isWrapper Try.pinned.checked.prog Rows.fnGsubDoReplaceUndoneByReverseReplaceRow.wrapper Rows.fnGsubDoReplaceUndoneByReverseReplaceRow.mainSum := by unfold Func.isWrapper; first | (rw [if_pos (by decide +kernel)]; kernel_rfl) | (rw [if_neg (by decide +kernel)]; exact ⟨rfl, rfl⟩)

theorem over : Rows.fnGsubDoReplaceUndoneByReverseReplaceRow.holds Try.pinned (OpenSpec.ofChange Rows.fnGsubDoReplaceUndoneByReverseReplaceSpec) :=
  OpenClaim.holds_of_wide 10 Try.f10 rfl rfl rfl rfl rfl rfl rfl ⟨rfl, rfl, rfl, rfl, rfl⟩ rfl rfl rfl rfl rfl at_func Try.func10 at_joined at_inst at_wrap
    (fun os started H enc _ => lifted os started H enc)

theorem proved : Rows.FnGsubDoReplaceUndoneByReverseReplaceSaid := over
#print axioms proved
end Go.Proofs.Ytmlhjgledpglhaa.fnGsubDoReplaceUndoneByReverseReplace
