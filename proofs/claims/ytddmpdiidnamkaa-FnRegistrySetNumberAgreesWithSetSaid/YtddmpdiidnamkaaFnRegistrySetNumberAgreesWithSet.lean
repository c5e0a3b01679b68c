/-
  Proved: two registries driven by the same script, one through Set and one through SetNumber, agree in top, fullness and every slot after each write.
  Conditions: none; it is the given statement Rows.FnRegistrySetNumberAgreesWithSetSaid, for every input of the Go function n005_18.FnRegistrySetNumberAgreesWithSet.
  The walk through the Go text is the theorem law_agrees; here is the row's step alone.
-/
import Derived.Test.YtddmpdiidnamkaaRows
import Derived.Test.YtddmpdiidnamkaaAgr
import Derived.WalkKit
import Derived.ProofKit
import Derived.OpenShut
import Derived.ShutString
import Derived.ChangeOld
import Derived.Below
import Derived.Carry
namespace Go.Proofs.Ytddmpdiidnamkaa.fnRegistrySetNumberAgreesWithSet
open Go.ChangeShapes Go.WideShapes Go.ChangeAt Go.RowKit Go.Proofs.Ytddmpdiidnamkaa
open Go.ChangeMaps (open_string shut_string)
set_option linter.unusedVariables false

theorem own : ownKnob Try.prog.godebug = none := by kernel_rfl
theorem laidOut : laidOutB Try.prog = true := by kernel_rfl

set_option maxRecDepth 100000 in
theorem lifted (os : Os) (started : os.Started) (H : Type) (enc : TypeId × Value → H) :
    ReturnsInHanded {} Try.checked os 7 .any (Rows.fnRegistrySetNumberAgreesWithSetSpec.pre6 enc Try.prog Try.f7 Rows.fnRegistrySetNumberAgreesWithSetRow.domain false) (Rows.fnRegistrySetNumberAgreesWithSetSpec.post enc Try.prog Try.f7 false true false false) := by
  refine returnsInHanded_of_change (C := Try.checked) own started (by kernel_rfl) Try.func7
    (ChangeSpec.witness6 (enc := enc) (C := Try.checked) false ⟨#[], #[.int .i64 0, .int .i64 0, .int .i64 0, .slice none 0 0, .slice none 0 0], []⟩ 8 (by kernel_rfl) (by kernel_rfl) (by kernel_rfl) (by kernel_rfl)) ?_
  intro W base args ds gs before hval0 hW hcnd _
  have hval : ∀ (j : Nat) t v, Try.f7.params[j]? = some t → args[j]? = some v → Value.okWide Try.prog W .any base t v := hval0
  have hW' := hW
  obtain ⟨p, q, hA0, hV, rfl, hfz, hnd⟩ := hW
  have hA : DataW.TrodAll enc Try.prog W 0 (fun _ => true) true Try.f7.params.toList args.toList ds p := hA0
  rw [Try.params7] at hA hval
  obtain ⟨v0, vs0, d0, ds0, p0, q0, hargs, rfl, rfl, h0, r0⟩ := trodAll_cons hA
  obtain ⟨v1, vs1, d1, ds1, p1, q1, rfl, rfl, rfl, h1, r1⟩ := trodAll_cons r0
  obtain ⟨v2, vs2, d2, ds2, p2, q2, rfl, rfl, rfl, h2, r2⟩ := trodAll_cons r1
  obtain ⟨v3, vs3, d3, ds3, p3, q3, rfl, rfl, rfl, h3, r3⟩ := trodAll_cons r2
  obtain ⟨v4, vs4, d4, ds4, p4, q4, rfl, rfl, rfl, h4, r4⟩ := trodAll_cons r3
  obtain ⟨rfl, rfl, rfl⟩ := trodAll_nil r4
  obtain rfl : args = #[v0, v1, v2, v3, v4] := by cases args; simp_all
  obtain ⟨rfl, rfl⟩ := trodVars_none hV
  have k0 := h0
  have lt0 : ∀ x ∈ p0, x.block < W.heap.size := by obtain ⟨m, hm⟩ := k0; exact DataW.trod_lt m _ _ _ hm
  have k1 := h1
  have lt1 : ∀ x ∈ p1, x.block < W.heap.size := by obtain ⟨m, hm⟩ := k1; exact DataW.trod_lt m _ _ _ hm
  have k2 := h2
  have lt2 : ∀ x ∈ p2, x.block < W.heap.size := by obtain ⟨m, hm⟩ := k2; exact DataW.trod_lt m _ _ _ hm
  have k3 := h3
  have lt3 : ∀ x ∈ p3, x.block < W.heap.size := by obtain ⟨m, hm⟩ := k3; exact DataW.trod_lt m _ _ _ hm
  have k4 := h4
  have lt4 : ∀ x ∈ p4, x.block < W.heap.size := by obtain ⟨m, hm⟩ := k4; exact DataW.trod_lt m _ _ _ hm
  obtain ⟨a0, rfl, _, _, w0⟩ := open_int Try.underlying3 (hval 0 3 v0 rfl rfl) h0
  obtain ⟨a1, rfl, _, _, w1⟩ := open_int Try.underlying3 (hval 1 3 v1 rfl rfl) h1
  obtain ⟨a2, rfl, _, _, w2⟩ := open_int Try.underlying3 (hval 2 3 v2 rfl rfl) h2
  obtain ⟨A3, n3, c3, rfl⟩ := okWide_slice Try.underlying30 (hval 3 30 v3 rfl rfl)
  obtain ⟨xs3, g3, el3⟩ := open_arg Try.underlying30 (by kernel_rfl) h3
  obtain ⟨z3, rfl, wz3⟩ := ints_of Try.underlying3 xs3 el3
  obtain ⟨A4, n4, c4, rfl⟩ := okWide_slice Try.underlying31 (hval 4 31 v4 rfl rfl)
  obtain ⟨xs4, g4, el4⟩ := open_arg Try.underlying31 (by kernel_rfl) h4
  obtain ⟨z4, rfl, wz4⟩ := floats_of Try.underlying22 xs4 el4
  clear hA0 hval0
  refine (law_agrees a0 a1 a2 A3 n3 c3 z3 A4 n4 c4 z4 W (bounds_i64 w0) (bounds_i64 w1) (bounds_i64 w2) g3 (fun x hx => bounds_i64 (wz3 x hx)) g4 wz4).mono fun e W' ⟨he, bel⟩ => ?_
  subst he
  exact ⟨_, rfl, _, _, _, [], _, [], hW', trodAll_mk1 (shut_bool Try.underlying4 _), (trodAll_cons_mk (Below.trod laidOut (by kernel_rfl) (of_decide_eq_true (by kernel_rfl)) k0 bel lt0) (trodAll_cons_mk (Below.trod laidOut (by kernel_rfl) (of_decide_eq_true (by kernel_rfl)) k1 bel lt1) (trodAll_cons_mk (Below.trod laidOut (by kernel_rfl) (of_decide_eq_true (by kernel_rfl)) k2 bel lt2) (trodAll_cons_mk (Below.trod laidOut (by kernel_rfl) (of_decide_eq_true (by kernel_rfl)) k3 bel lt3) (trodAll_cons_mk (Below.trod laidOut (by kernel_rfl) (of_decide_eq_true (by kernel_rfl)) k4 bel lt4) trodAll_mk0))))), rfl, bel.frame _, fun h => by cases h⟩

theorem at_func : Try.pinned.checked.prog.funcNamed Rows.fnRegistrySetNumberAgreesWithSetRow.func = some 7 := by kernel_rfl
theorem at_joined : joinedFacts Try.pinned.checked.prog 7 Try.f7 Rows.fnRegistrySetNumberAgreesWithSetSpec Rows.fnRegistrySetNumberAgreesWithSetRow = true := by kernel_rfl
theorem at_inst : Try.f7.isInstance Try.pinned.checked.prog Rows.fnRegistrySetNumberAgreesWithSetRow.origin Rows.fnRegistrySetNumberAgreesWithSetRow.targs := of_decide_eq_true (by kernel_rfl)
theorem at_wrap : Try.f7.isWrapper Try.pinned.checked.prog Rows.fnRegistrySetNumberAgreesWithSetRow.wrapper Rows.fnRegistrySetNumberAgreesWithSetRow.mainSum := by unfold Func.isWrapper; first | (rw [if_pos (by decide +kernel)]; kernel_rfl) | (rw [if_neg (by decide +kernel)]; exact ⟨rfl, rfl⟩)

theorem over : Rows.fnRegistrySetNumberAgreesWithSetRow.holds Try.pinned (OpenSpec.ofChange Rows.fnRegistrySetNumberAgreesWithSetSpec) :=
  OpenClaim.holds_of_wide 7 Try.f7 rfl rfl rfl rfl rfl rfl rfl ⟨rfl, rfl, rfl, rfl, rfl⟩ rfl rfl rfl rfl rfl at_func Try.func7 at_joined at_inst at_wrap
    (fun os started H enc _ => lifted os started H enc)

theorem proved : Rows.FnRegistrySetNumberAgreesWithSetSaid := over
#print axioms proved
end Go.Proofs.Ytddmpdiidnamkaa.fnRegistrySetNumberAgreesWithSet
