/-
  The number that an int32 becomes; the helpers of the law on Insert.
-/
import Derived.Test.YtddmpdiidnamkaaIns
import Derived.Laws.Cover2
namespace Go.Proofs.Ytddmpdiidnamkaa
open Go.RowKit
set_option linter.unusedVariables false

theorem not_nan_refl {d : Ieee.Datum} (h : d.isNaN = false) : d.order d = some .eq := by
  cases d with
  | number s m i => simp only [Ieee.Datum.order]; rw [cmp_self]
  | infinity s => simp only [Ieee.Datum.order]; cases s <;> rfl
  | nan s t => cases h
theorem nearest_word (neg : Bool) (mag : Nat) (place : Int) : ∃ r, r ≤ Ieee.double.infRung ∧ Ieee.double.nearest neg mag place = Ieee.double.word neg r := by
  unfold Ieee.Format.nearest
  split
  · exact ⟨0, Nat.zero_le _, rfl⟩
  · exact ⟨_, Nat.min_le_right _ _, rfl⟩
theorem read_word (neg : Bool) (r : Nat) (h : r ≤ Ieee.double.infRung) : (Ieee.double.read (Ieee.double.word neg r)).isNaN = false := by
  have h1 : Ieee.double.infRung = 9218868437227405312 := by decide
  have h2 : Ieee.double.signWeight = 9223372036854775808 := by decide
  have hr : Ieee.double.word neg r % Ieee.double.signWeight = r := by
    cases neg
    · show r % Ieee.double.signWeight = r
      rw [h2]; omega
    · show (Ieee.double.signWeight + r) % Ieee.double.signWeight = r
      rw [h2]; omega
  unfold Ieee.Format.read
  simp only [hr]
  split
  · rfl
  · split
    · rfl
    · rw [if_pos (by omega)]
      rfl
theorem flt_real (n : Int) : feq (floatOfInt .f64 n) (floatOfInt .f64 n) = true := by
  obtain ⟨r, hr, he⟩ := nearest_word (decide (n < 0)) n.natAbs 0
  have : floatOfInt .f64 n = Ieee.double.word (decide (n < 0)) r := he
  unfold feq
  rw [this]
  show ((Ieee.double.read _).order (Ieee.double.read _) == some .eq) = true
  rw [not_nan_refl (read_word _ r hr)]
  rfl

/-- The model of the law: at each slot a number or none. -/
def slI (K : Nat → Option Int) (j : Nat) : Value := match K j with | none => .nilIface | some z => .iface 59 (.float .f64 (floatOfInt .f64 z))
def kI (K : Nat → Option Int) (j : Nat) : Value := .int .i64 (match K j with | none => 0 | some _ => 2)
def vI (K : Nat → Option Int) (j : Nat) : Value := .int .i32 ((K j).getD 0)
theorem slI_num (K : Nat → Option Int) (j : Nat) : IsNum (slI K j) := by
  unfold slI IsNum
  cases K j with
  | none => exact .inl rfl
  | some z => exact .inr ⟨_, rfl⟩
def updO (K : Nat → Option Int) (i : Nat) (z : Int) : Nat → Option Int := fun j => if j = i then some z else K j
theorem slI_upd (K : Nat → Option Int) (i : Nat) (z : Int) : upd (slI K) i (.iface 59 (.float .f64 (floatOfInt .f64 z))) = slI (updO K i z) := by
  funext j
  unfold upd slI updO
  by_cases h : j = i <;> simp [h]

theorem znew45_c (w : World) (n : Nat) (hm : n ≤ 65536) : Calls Try.prog 45 #[.int .i64 (n : Int)] w (NewPost w n 0 n none) := by
  have H := Lib.hid (new_c w n 0 n (.pointer none) (Nat.le_refl _) hm (by omega) (.inl rfl))
  go_enter Try.func45, Try.ntmps45
  go_wp2_with fail
  refine H.out.mono ?_; rintro e w' ⟨f, g, rfl, h1, h2, h3, h4⟩
  have H1 := Lib.hid h1
  have H2 := Lib.hid h2
  clear h1 h2
  go_wp2_with fail
  go_ret
  exact ⟨f, g, rfl, H1.out, H2.out, h3, h4⟩
theorem zset46_c (w : World) (B f g C top gb mx : Nat) (al : Value) (sl : Nat → Value) (i : Nat) (z : Int) (h : Rg w f g C top gb mx al sl) (hi : i < mx) (hB : B ≤ f ∧ B ≤ g) (hBw : B ≤ w.heap.size) :
    Calls Try.prog 46 #[.pointer (some ⟨f, 0, none⟩), .int .i64 (i : Int), .int .i32 z] w (SetPost w B f g C top gb mx al sl i (.iface 59 (.float .f64 (floatOfInt .f64 z)))) := by
  have H := Lib.hid (set_c w B f g C top gb mx al sl i (floatOfInt .f64 z) h hi hB hBw)
  clear h
  go_enter Try.func46, Try.ntmps46
  go_wp2_with fail
  refine H.out.mono ?_; rintro e w' ⟨rfl, hp⟩
  have HP := Lib.hid hp
  clear hp
  go_wp2_with fail
  go_end0
  exact ⟨rfl, HP.out⟩
theorem zins38_c (w : World) (B f g C top gb mx : Nat) (al : Value) (sl : Nat → Value) (i : Nat) (z : Int) (h : Rg w f g C top gb mx al sl) (hi : i < C) (htop : i < top → top < C) (hN : ∀ j, IsNum (sl j)) (hB : B ≤ f ∧ B ≤ g) :
    Calls Try.prog 38 #[.pointer (some ⟨f, 0, none⟩), .int .i32 z, .int .i64 (i : Int)] w (InsPost w B f g C top gb mx al sl i (.iface 59 (.float .f64 (floatOfInt .f64 z)))) := by
  have H := Lib.hid (insert_c w B f g C top gb mx al sl i (floatOfInt .f64 z) h hi htop hN hB)
  clear h hN htop
  go_enter Try.func38, Try.ntmps38
  go_wp2_with fail
  refine H.out.mono ?_; rintro e w' ⟨rfl, hp⟩
  have HP := Lib.hid hp
  clear hp
  go_wp2_with fail
  go_end0
  exact ⟨rfl, HP.out⟩
theorem top48_c (w : World) (f g C top gb mx : Nat) (al : Value) (sl : Nat → Value) (h : Rg w f g C top gb mx al sl) : Calls Try.prog 48 #[.pointer (some ⟨f, 0, none⟩)] w fun e w' => e = .returned (.int .i64 (top : Int)) ∧ w = w' := by
  have H := Lib.hid (top_c w f g C top gb mx al sl h)
  clear h
  go_enter Try.func48, Try.ntmps48
  go_wp2_with fail
  refine H.out.mono ?_; rintro e w' ⟨rfl, rfl⟩
  go_wp2_with fail
  go_ret
  exact ⟨rfl, rfl⟩
theorem assert74 (v : Value) (w : World) : (Instr.typeAssert (.iface 59 v) 63 74 true).run Try.prog w = .ok (.tuple #[.pointer none, .bool false]) w := by kernel_rfl
theorem cellNone_c (w : World) (f g C top gb mx : Nat) (al : Value) (sl : Nat → Value) (i : Nat) (h : Rg w f g C top gb mx al sl) (hi : i < C) (hs : sl i = .nilIface) :
    Calls Try.prog 49 #[.pointer (some ⟨f, 0, none⟩), .int .i64 (i : Int)] w fun e w' => e = .returned (.tuple #[.int .i64 0, .float .f64 0]) ∧ w = w' := by
  have G := get_c w f g C top gb mx al sl i h hi
  rw [hs] at G
  have GH := Lib.hid G
  clear G hs h
  go_enter Try.func49, Try.ntmps49
  go_wp2_with fail
  refine GH.out.mono ?_; rintro e w' ⟨rfl, rfl⟩
  go_wp2_with fail
  go_ret2
  exact ⟨rfl, rfl⟩
theorem cellNum_c (w : World) (f g C top gb mx : Nat) (al : Value) (sl : Nat → Value) (i x : Nat) (h : Rg w f g C top gb mx al sl) (hi : i < C) (hs : sl i = .iface 59 (.float .f64 x)) :
    Calls Try.prog 49 #[.pointer (some ⟨f, 0, none⟩), .int .i64 (i : Int)] w fun e w' => e = .returned (.tuple #[.int .i64 2, .float .f64 x]) ∧ w = w' := by
  have G := get_c w f g C top gb mx al sl i h hi
  rw [hs] at G
  have GH := Lib.hid G
  clear G hs h
  have e1 := fun v W => assert59 v W
  have e2 := fun t v W => eql_iface_nil t v W
  have e3 := fun v W => assert74 v W
  go_enter Try.func49, Try.ntmps49
  go_wp2_with fail
  refine GH.out.mono ?_; rintro e w' ⟨rfl, rfl⟩
  go_wp2_with fail
  go_ret2
  exact ⟨rfl, rfl⟩

set_option maxHeartbeats 1000000 in
set_option maxRecDepth 100000 in
theorem match39_c (w : World) (f g C top gb mx : Nat) (al : Value) (K : Nat → Option Int) (p q m : Nat) (h : Rg w f g C top gb mx al (slI K)) (hp : Blk w p 3 (rowOf (kI K) m)) (hq : Blk w q 21 (rowOf (vI K) m)) (hm : m ≤ C) (hm2 : m ≤ 65536) :
    Calls Try.prog 39 #[.pointer (some ⟨f, 0, none⟩), .int .i64 (m : Int), .slice (some ⟨p, 0, none⟩) m m, .slice (some ⟨q, 0, none⟩) m m, .int .i64 (top : Int)] w fun e w' => e = .returned (.bool true) ∧ w = w' := by
  have H := Lib.hid h
  have HP := Lib.hid hp
  have HQ := Lib.hid hq
  clear h hp hq
  have e1 : ((top : Int) == (top : Int)) = true := by simp
  go_enter Try.func39, Try.ntmps39
  go_wp2_with fail
  refine (top48_c w f g C top gb mx al _ H.out).mono ?_; rintro e w' ⟨rfl, rfl⟩
  go_wp2_with fail
  clear e1
  go_loopw [11] (fun i wr => ∃ j : Nat, j ≤ m ∧ i = .int .i64 j ∧ wr = w) (fun i _ => m - (intOf i).toNat)
  case atStart => exact ⟨0, Nat.zero_le _, rfl, rfl⟩
  case round =>
    obtain ⟨j, hj, rfl, rfl⟩ := hrel
    by_cases hlt : j < m
    · have pp := (HP.out.cell j).trans (rowOf_at hlt)
      have qq := (HQ.out.cell j).trans (rowOf_at hlt)
      have i0 : (0 : Int) ≤ (j : Int) := by omega
      have i1 : (j : Int) < (m : Int) := by omega
      unfold kI at pp
      unfold vI at qq
      cases hK : K j with
      | none =>
        rw [hK] at pp qq
        have SL := Lib.hid (cellNone_c wr f g C top gb mx al _ j H.out (by omega) (by unfold slI; rw [hK]))
        clear hK
        go_wp2_with fail
        refine SL.out.mono ?_; rintro e w' ⟨rfl, rfl⟩
        go_wp2_with fail
        go_roundw
        case rel => exact ⟨j + 1, by omega, by go_num, by first | rfl | trivial⟩
        case measure => simp [intOf]; omega
      | some z =>
        rw [hK] at pp qq
        have SL := Lib.hid (cellNum_c wr f g C top gb mx al _ j (floatOfInt .f64 z) H.out (by omega) (by unfold slI; rw [hK]))
        have hr := flt_real z
        unfold feq at hr
        have n2 : (FloatKind.f64.format.order (floatOfInt .f64 z) (floatOfInt .f64 z) != some .eq) = false := by rw [bne, hr]; rfl
        simp only [Option.getD_some] at qq
        clear hK hr
        go_wp2_with fail
        refine SL.out.mono ?_; rintro e w' ⟨rfl, rfl⟩
        go_wp2_with fail
        go_roundw
        case rel => exact ⟨j + 1, by omega, by go_num, by first | rfl | trivial⟩
        case measure => simp [intOf]; omega
    · obtain rfl : j = m := by omega
      go_wp2_with fail
      go_ret
      exact ⟨rfl, rfl⟩
end Go.Proofs.Ytddmpdiidnamkaa
