/-
  A registry built out of a list of numbers.
-/
import Derived.Test.YtddmpdiidnamkaaVal
import Derived.Test.YtddmpdiidnamkaaCpi
namespace Go.Proofs.Ytddmpdiidnamkaa
open Go.RowKit
set_option linter.unusedVariables false

theorem bytes35_c (A : Option Addr) (n c : Nat) (a b d : Int) (w : World) (m : n ≤ 9223372036854775807) : Calls Try.prog 35 #[.slice A n c, .int .i64 a, .int .i32 b, .int .i64 d] w (SomeBool w) := by
  by_cases h : n ≤ 1048576
  · go_enter Try.func35, Try.ntmps35
    go_wp2
    go_ret
    exact SomeBool.mk _
  · have h' : 1048576 < n := by omega
    clear h
    go_enter Try.func35, Try.ntmps35
    go_wp2
    go_ret
    exact SomeBool.mk _
/-- The first k of the list. -/
def KA (zs : List Int) (k : Nat) : Nat → Option Int := fun j => if j < k then zs[j]? else none
theorem KA_zero (zs : List Int) : KA zs 0 = fun _ => none := by funext j; unfold KA; rw [if_neg (by omega)]
theorem KA_step {zs : List Int} {k : Nat} {z : Int} (h : zs[k]? = some z) : updO (KA zs k) k z = KA zs (k + 1) := by
  funext j
  unfold updO KA
  by_cases e : j = k
  · subst e; rw [if_pos rfl, if_pos (by omega), h]
  · rw [if_neg e]
    by_cases e2 : j < k
    · rw [if_pos e2, if_pos (by omega)]
    · rw [if_neg e2, if_neg (by omega)]
theorem slI_none : slI (fun _ => none) = fun _ => .nilIface := rfl

set_option maxHeartbeats 1000000 in
set_option maxRecDepth 100000 in
theorem build37_c (A : Option Addr) (n c cp : Nat) (zs : List Int) (w : World) (h : Arg w A n c (zs.map (Value.int .i32))) (hn : n ≤ cp) (hc : cp ≤ 65536) :
    Calls Try.prog 37 #[.slice A n c, .int .i64 (cp : Int)] w fun e w' => ∃ f g, e = .returned (.pointer (some ⟨f, 0, none⟩)) ∧ Rg w' f g cp n 0 cp (.pointer none) (slI (KA zs n)) ∧ Below w.heap.size w w' ∧ w.heap.size ≤ f ∧ w.heap.size ≤ g := by
  have H := Lib.hid h
  clear h
  go_enter Try.func37, Try.ntmps37
  go_wp2_with fail
  refine (znew45_c w cp hc).mono ?_; rintro e w1 ⟨f, g, rfl, hr, b1, hf, hg⟩
  have R := Lib.hid hr
  have B1 : Hid (Below w.heap.size w w1) := b1
  clear hr b1
  go_wp2_with fail
  go_loopw [6] (fun i wr => ∃ k g' : Nat, k ≤ n ∧ i = .int .i64 k ∧ Hid (Rg wr f g' cp k 0 cp (.pointer none) (slI (KA zs k))) ∧ w.heap.size ≤ g' ∧ Hid (Below w.heap.size w wr)) (fun i _ => n - (intOf i).toNat)
  case atStart => exact ⟨0, g, Nat.zero_le _, rfl, Lib.hid (by rw [KA_zero, slI_none]; exact R.out), hg, B1.out⟩
  case round =>
    obtain ⟨k, g', hk, rfl, hR, hg', hB⟩ := hrel
    by_cases hlt : k < n
    · obtain ⟨z, hz⟩ : ∃ z, zs[k]? = some z := ⟨zs[k]'(by have := H.out.1; rw [List.length_map] at this; omega), List.getElem?_eq_getElem _⟩
      obtain ⟨b, off, rfl, hb, hcc⟩ := (H.out.below hB.out).2.2.2.2 (by omega)
      have ck : wr.cell? ⟨b, off + k, none⟩ = some (.int .i32 z) := hcc k _ (by rw [List.getElem?_map, hz]; rfl)
      have i0 : (0 : Int) ≤ (k : Int) := by omega
      have i1 : (k : Int) < (n : Int) := by omega
      have HZ := Lib.hid hz
      clear hz hcc
      go_wp2_with fail
      refine (zset46_c wr w.heap.size f g' cp k 0 cp _ _ k z hR.out (by omega) ⟨hf, hg'⟩ hB.out.size).mono ?_; rintro e w5 ⟨rfl, g5, hr5, ht5, hb5, hg5⟩
      rw [slI_upd, KA_step HZ.out, show capOf cp 0 cp (k + 1) = cp by unfold capOf; rw [if_pos (by omega)], show max k (k + 1) = k + 1 by omega] at hr5
      have R5 := Lib.hid hr5
      have B5 := Lib.hid (hB.out.trans hb5)
      have hw := hB.out.size
      have hw2 : w.heap.size ≤ g5 := by
        rcases hg5 with rfl | h
        · exact hg'
        · exact Nat.le_trans hw h
      clear hr5 ht5 hb5 hg5 hw
      go_wp2_with fail
      go_roundw
      case rel => exact ⟨k + 1, g5, by omega, by go_num, R5.out, hw2, B5.out⟩
      case measure => simp [intOf]; omega
    · obtain rfl : k = n := by omega
      go_wp2_with fail
      go_ret
      exact ⟨f, g', rfl, hR.out, hB.out, hf, hg'⟩
end Go.Proofs.Ytddmpdiidnamkaa
