/-
  The walk through the law on the count of local variables along a chain of code blocks.
-/
import Derived.Test.YtofbdaicahngfaaChain
import Derived.Carry
namespace Go.Proofs.Ytofbdaicahngfaa
open Go.RowKit
set_option linter.unusedVariables false

theorem newBlock_c (w : World) (p : Nat) (bl fg : Int) (par : Option Addr) : Calls Try.prog 11 #[.pointer (some ⟨p, 0, none⟩), .int .i64 bl, .pointer par, .int .i64 fg] w fun e w' =>
    ∃ d mp, e = .returned (.pointer (some ⟨d, 0, none⟩)) ∧ Blk w' d 33 #[.pointer (some ⟨p, 0, none⟩), .int .i64 bl, .pointer par, .bool false, .int .i64 0, .int .i64 0, mp, .int .i64 fg] ∧ Below w.heap.size w w' ∧ w.heap.size ≤ d := by
  have hmm : ∀ W : World, (Instr.makeMap 31 none).run Try.prog W = .ok (.map (some W.heap.size)) (W.alloc (.map #[] 0)) := fun W => rfl
  go_enter Try.func11, Try.ntmps11
  go_wp2_with (go_at_call 24; go_in)
  go_ret
  refine ⟨w.heap.size + 1, .map (some w.heap.size), rfl, Blk.new_at _ _ _ (by simp), ?_, by omega⟩
  repeat (first | exact Below.refl _ _ | refine Below.drew ?_ | refine Below.alloc ?_ (by simp <;> omega) _)

theorem Pool.below {w w' : World} {B p m : Nat} {off : Int} (h : Pool w B p m off) (hb : Below w.heap.size w w') : Pool w' B p m off := by
  obtain ⟨g, c, xs, hB, hblk, hown, hm⟩ := h
  exact ⟨g, c, xs, hB, hblk.below hb hblk.lt, hown.kept (row := none) ⟨hb.os, hb.tape, hb.output, hb.size, fun k hk _ => hb.block k hk⟩ (.inr (by simp [Value.ownBlock])), hm⟩

/-- The sum of the first k counts. -/
def upTo (zs : List Int) (k : Nat) : Nat := ((zs.take k).map Int.toNat).sum
theorem upTo_succ {zs : List Int} {k : Nat} {z : Int} (h : zs[k]? = some z) : upTo zs (k + 1) = upTo zs k + z.toNat := by
  unfold upTo
  rw [List.take_add_one, h]
  simp
theorem upTo_le {zs : List Int} {k : Nat} : upTo zs k ≤ upTo zs (k + 1) := by
  rcases h : zs[k]? with _ | z
  · unfold upTo
    rw [List.take_add_one, h]
    simp
  · rw [upTo_succ h]; omega
theorem upTo_mono {zs : List Int} {k n : Nat} (h : k ≤ n) : upTo zs k ≤ upTo zs n := by
  induction n with
  | zero => obtain rfl : k = 0 := by omega
            exact Nat.le_refl _
  | succ n ih =>
    rcases Nat.lt_or_ge n k with hk | hk
    · obtain rfl : k = n + 1 := by omega
      exact Nat.le_refl _
    · exact Nat.le_trans (ih hk) upTo_le

set_option maxHeartbeats 1000000 in
set_option maxRecDepth 100000 in
theorem law_chain (A : Option Addr) (n c : Nat) (zs : List Int) (w : World) (hA : Arg w A n c (zs.map (Value.int .i64))) (hz : ∀ x ∈ zs, -9223372036854775808 ≤ x ∧ x ≤ 9223372036854775807) :
    Calls Try.prog 5 #[.slice A n c] w fun e w' => e = .returned (.bool true) ∧ Below w.heap.size w w' := by
  have hmax : n ≤ 9223372036854775807 := by have h1 := hA.2.1; have h2 := hA.2.2.1; unfold maxLen at h2; omega
  have HA := Lib.hid hA
  have HL : Hid (zs.length = n) := by show zs.length = n; simpa using hA.1
  clear hA hz
  by_cases hG : n ≤ 4096
  · go_enter Try.func5, Try.ntmps5
    go_wp2_with (go_at_call 19; go_in)
    go_loopw [3, 4] (fun t i wr => ∃ k T : Nat, k ≤ n ∧ i = .int .i64 k ∧ t = .int .i64 T ∧ T ≤ 65536 ∧ Hid (upTo zs k = T) ∧ Hid (∀ j z, j < k → zs[j]? = some z → 0 ≤ z ∧ z ≤ 65536) ∧ wr = w) (fun _ i _ => n - (intOf i).toNat)
    case atStart => exact ⟨0, 0, Nat.zero_le _, rfl, rfl, by omega, Lib.hid rfl, Lib.hid (fun j z hj => by omega), rfl⟩
    case round =>
      obtain ⟨k, T, hk, rfl, rfl, hT, hS, hN, rfl⟩ := hrel
      by_cases hlt : k < n
      · obtain ⟨b, off, rfl, hb, hc⟩ := HA.out.2.2.2.2 (by omega)
        obtain ⟨z, hzk⟩ : ∃ z, zs[k]? = some z := ⟨zs[k]'(by rw [HL.out]; exact hlt), List.getElem?_eq_getElem _⟩
        have hcell := hc k (.int .i64 z) (by rw [List.getElem?_map, hzk]; rfl)
        have i0 : (0 : Int) ≤ (k : Int) := by omega
        have i1 : (k : Int) < (n : Int) := by omega
        have HZ := Lib.hid hzk
        clear hc hzk
        rcases (show z < 0 ∨ 65536 < z ∨ (0 ≤ z ∧ z ≤ 65536) by omega) with h | h | ⟨z0, z1⟩
        · go_wp2_with fail
          go_ret
          exact ⟨rfl, Below.refl _ _⟩
        · have h' : ¬ z < 0 := by omega
          go_wp2_with fail
          go_ret
          exact ⟨rfl, Below.refl _ _⟩
        · have h' : ¬ z < 0 := by omega
          obtain ⟨m, rfl⟩ := Int.eq_ofNat_of_zero_le z0
          have hU := Lib.hid (upTo_succ HZ.out)
          by_cases hs : T + m ≤ 65536
          · have hs' : ¬ (65536 < (T : Int) + (m : Int)) := by omega
            go_wp2_with fail
            go_roundw
            case rel => exact ⟨k + 1, T + m, by omega, by go_num, by go_num, hs, Lib.hid (by rw [hU.out, hS.out]; simp), Lib.hid (fun j z hj hz' => by
              rcases Nat.lt_or_ge j k with h1 | h1
              · exact hN.out j z h1 hz'
              · obtain rfl : j = k := by omega
                rw [HZ.out] at hz'
                obtain rfl := Option.some.inj hz'
                exact ⟨z0, z1⟩), by first | trivial | rfl⟩
            case measure => simp [intOf]; omega
          · have hs' : 65536 < (T : Int) + (m : Int) := by omega
            go_wp2_with fail
            go_ret
            exact ⟨rfl, Below.refl _ _⟩
      · obtain rfl : k = n := by omega
        go_wp2_with fail
        refine (copy_int A k c zs _ HA.out (by omega)).mono ?_; rintro e w1 ⟨A1, k1, rfl, a1, b1⟩
        have M1 := Lib.hid a1
        have L1 := Lib.hid b1
        clear a1 b1
        go_wp2_with fail
        refine (newPool_c 0 _).mono ?_; rintro e w2 ⟨p0, rfl, a2, b2⟩
        have M2 := Lib.hid a2
        have L2 := Lib.hid b2
        clear a2 b2
        go_wp2_with fail
        refine (newBlock_c w2 p0 0 0 none).mono ?_; rintro e w3 ⟨d0, mp0, rfl, a3, b3, g3⟩
        have R3 : Hid (Chain w3 (some ⟨d0, 0, none⟩) [0]) := by
          obtain ⟨g, cc, xs, hB, hblk, hown, hm⟩ := M2.out
          exact ⟨d0, p0, _, _, none, rfl, (a3.cell 0).trans rfl, (a3.cell 2).trans rfl, ((hblk.below b3 hblk.lt).cell 0).trans rfl, trivial⟩
        have L3 : Hid (Below w1.heap.size w1 w3) := L2.out.trans (b3.mono L2.out.size)
        clear a3 b3 g3
        go_wp2_with fail
        refine (count_c w3 (some ⟨d0, 0, none⟩) [0] R3.out (by simp)).mono ?_; rintro e w' ⟨rfl, rfl⟩
        rw [show (([0] : List Nat).sum : Nat) = 0 by rfl]
        go_wp2_with fail
        go_loopw [6, 7, 8] (fun cur s i wr => ∃ (q : Nat) (a : Option Addr) (ms : List Nat), q ≤ k ∧ i = .int .i64 q ∧ s = .int .i64 (upTo zs q : Nat) ∧ cur = .pointer a ∧ Hid (Chain wr a ms) ∧ Hid (ms.sum = upTo zs q) ∧ Hid (Chain wr (some ⟨d0, 0, none⟩) [0]) ∧ Below w1.heap.size w1 wr) (fun _ _ i _ => k - (intOf i).toNat)
        case atStart => exact ⟨0, some ⟨d0, 0, none⟩, [0], Nat.zero_le _, rfl, rfl, rfl, R3.out, Lib.hid rfl, R3.out, L3.out⟩
        case round =>
          obtain ⟨q, a, ms, hq, rfl, rfl, rfl, hCh, hSum, hRoot, hbel⟩ := hrel
          have HBEL := Lib.hid hbel
          clear hbel
          obtain ⟨wo, hwo⟩ : ∃ x, x = wr := ⟨_, rfl⟩
          subst hwo
          by_cases hlt2 : q < k
          · obtain ⟨b, off, rfl, hb, hc⟩ := M1.out.2.2.2.2 (by omega)
            obtain ⟨z, hzq⟩ : ∃ z, zs[q]? = some z := ⟨zs[q]'(by rw [HL.out]; exact hlt2), List.getElem?_eq_getElem _⟩
            obtain ⟨z0, z1⟩ := hN.out q z hlt2 hzq
            obtain ⟨m, rfl⟩ := Int.eq_ofNat_of_zero_le z0
            have hcell : Hid (w1.cell? ⟨b, off + q, none⟩ = some (.int .i64 (m : Int))) := hc q _ (by rw [List.getElem?_map, hzq]; rfl)
            have hU : upTo zs (q + 1) = upTo zs q + m := by rw [upTo_succ hzq]; simp
            have hle : upTo zs (q + 1) ≤ T := by rw [← hS.out]; exact upTo_mono (by omega)
            have hb' := Lib.hid hb
            generalize hX : upTo zs q = X at *
            generalize hY : upTo zs (q + 1) = Y at *
            have HU := Lib.hid hU
            have HY := Lib.hid hY
            have hXT : X + m ≤ 65536 := by omega
            have i0 : (0 : Int) ≤ (q : Int) := by omega
            have i1 : (q : Int) < (k : Int) := by omega
            clear hc hzq hU hX hY z0 z1 hb
            go_wp2_with fail
            refine (newPool_c (X : Int) wo).mono ?_; rintro e w4 ⟨p, rfl, a4, b4⟩
            have M4 := Lib.hid a4
            have L4 := Lib.hid b4
            clear a4 b4
            go_wp2_with fail
            refine (newBlock_c w4 p ((q : Int) + 1) 0 a).mono ?_; rintro e w5 ⟨d, mp, rfl, a5, b5, g5⟩
            have M5 := Lib.hid (M4.out.below b5)
            have D5 := Lib.hid a5
            have L5 : Hid (Below wo.heap.size wo w5) := L4.out.trans (b5.mono L4.out.size)
            clear a5 b5 g5
            go_wp2_with fail
            go_loopw [10] (fun j w6 => ∃ t : Nat, t ≤ m ∧ j = .int .i64 t ∧ Hid (Pool w6 wo.heap.size p t X) ∧ Hid (Blk w6 d 33 #[.pointer (some ⟨p, 0, none⟩), .int .i64 ((q : Int) + 1), .pointer a, .bool false, .int .i64 0, .int .i64 0, mp, .int .i64 0]) ∧ Below wo.heap.size wo w6) (fun j _ => m - (intOf j).toNat)
            case atStart => exact ⟨0, Nat.zero_le _, rfl, M5.out, D5.out, L5.out⟩
            case round =>
              obtain ⟨t, ht, rfl, hP, hD, hbl⟩ := hrel
              have HB6 := Lib.hid hbl
              have hcell6 : wr.cell? ⟨b, off + q, none⟩ = some (.int .i64 (m : Int)) := (HB6.out.cell (by exact Nat.lt_of_lt_of_le hb'.out HBEL.out.size)).trans ((HBEL.out.cell (by exact hb'.out)).trans hcell.out)
              have t0 : (0 : Int) ≤ (t : Int) := by omega
              by_cases ht' : t < m
              · have t1 : (t : Int) < (m : Int) := by omega
                go_wp2_with fail
                refine (register_c wr wo.heap.size p t X _ hP.out (by omega) (by omega) (by omega)).mono ?_; rintro e w7 ⟨⟨v, rfl⟩, a7, b7, d7⟩
                have M7 := Lib.hid a7
                have L7 := Lib.hid b7
                have D7 := Lib.hid (d7 d _ hD.out)
                clear a7 b7 d7
                go_wp2_with fail
                go_roundw
                case rel => exact ⟨t + 1, by omega, by go_num, M7.out, D7.out, HB6.out.trans L7.out⟩
                case measure => simp [intOf]; omega
              · obtain rfl : t = m := by omega
                have t1 : ¬ (t : Int) < (t : Int) := by omega
                have HC : Hid (Chain wr (some ⟨d, 0, none⟩) (t :: ms)) := by
                  obtain ⟨g, cc, xs, hB, hblk, hown, hm⟩ := hP.out
                  exact ⟨d, p, _, _, a, rfl, (hD.out.cell 0).trans rfl, (hD.out.cell 2).trans rfl, (hblk.cell 0).trans rfl, hCh.out.below HB6.out⟩
                have hsm : Hid ((t :: ms).sum = Y) := by show _ = _; rw [List.sum_cons, hSum.out, HU.out, Nat.add_comm]
                have HUi : Hid ((Y : Int) = (X : Int) + (t : Int)) := by show _ = _; rw [HU.out]; simp
                go_wp2_with fail
                refine (count_c wr (some ⟨d, 0, none⟩) (t :: ms) HC.out (by rw [hsm.out]; omega)).mono ?_; rintro e w' ⟨rfl, rfl⟩
                rw [hsm.out, HUi.out]
                go_wp2_with fail
                refine (lastIndex_c wr wo.heap.size p t X hP.out (by omega) (by omega)).mono ?_; rintro e w' ⟨rfl, qq, rfl⟩
                go_wp2_with fail
                go_roundw
                case rel => exact ⟨q + 1, some ⟨d, 0, none⟩, t :: ms, by omega, by go_num, by rw [HY.out, HUi.out], rfl, HC.out.drewN, Lib.hid (by rw [hsm.out, HY.out]), (hRoot.out.below HB6.out).drewN, below_drewN (HBEL.out.trans (HB6.out.mono HBEL.out.size)) _⟩
                case measure => simp [intOf]; omega
          · obtain rfl : q = k := by omega
            go_wp2_with fail
            refine (count_c _ (some ⟨d0, 0, none⟩) [0] hRoot.out (by simp)).mono ?_; rintro e w' ⟨rfl, rfl⟩
            rw [show (([0] : List Nat).sum : Nat) = 0 by rfl]
            go_wp2_with fail
            go_ret
            exact ⟨rfl, L1.out.trans (HBEL.out.mono L1.out.size)⟩
  · have hG' : 4096 < n := by omega
    clear hG
    go_enter Try.func5, Try.ntmps5
    go_wp2_with (go_at_call 19; go_in)
    all_goals (go_ret; exact ⟨rfl, Below.refl _ _⟩)
end Go.Proofs.Ytofbdaicahngfaa
