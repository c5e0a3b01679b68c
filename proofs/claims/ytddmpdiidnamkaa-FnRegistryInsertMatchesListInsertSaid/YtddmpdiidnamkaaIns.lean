/-
  The walk through the registry's Insert, and the number that an int32 becomes.
-/
import Derived.Test.YtddmpdiidnamkaaCom
namespace Go.Proofs.Ytddmpdiidnamkaa
open Go.RowKit
set_option linter.unusedVariables false

/-- The slots with those from k on (below t) moved up by one. -/
def shUp (sl : Nat → Value) (k t : Nat) : Nat → Value := fun j => if k < j ∧ j ≤ t then sl (j - 1) else sl j
theorem shUp_top (sl : Nat → Value) (t : Nat) : shUp sl t t = sl := by
  funext j
  unfold shUp
  rw [if_neg (by omega)]
theorem shUp_step (sl : Nat → Value) (k t : Nat) (hk : 0 < k) (ht : k ≤ t) : upd (shUp sl k t) k (sl (k - 1)) = shUp sl (k - 1) t := by
  funext j
  unfold upd shUp
  by_cases h : j = k
  · subst h
    rw [if_pos rfl, if_pos (by omega)]
  · rw [if_neg h]
    by_cases h2 : k < j ∧ j ≤ t
    · rw [if_pos h2, if_pos (by omega)]
    · rw [if_neg h2, if_neg (by omega)]
theorem shUp_at (sl : Nat → Value) (k t : Nat) (hk : 0 < k) : shUp sl k t (k - 1) = sl (k - 1) := by
  unfold shUp
  rw [if_neg (by omega)]
/-- The slots behind an insertion at i, below the top t. -/
def insSl (sl : Nat → Value) (i t : Nat) (v : Value) : Nat → Value := upd (if i < t then shUp sl i t else sl) i v

def InsPost (w : World) (B f g C top gb mx : Nat) (al : Value) (sl : Nat → Value) (i : Nat) (v : Value) (e : Ending) (w' : World) : Prop :=
  e = .returned (.tuple #[]) ∧ Rg w' f g C (if i < top then top + 1 else i + 1) gb mx al (insSl sl i top v) ∧ Below B w w'

set_option maxHeartbeats 1000000 in
set_option maxRecDepth 100000 in
theorem insert_c (w : World) (B f g C top gb mx : Nat) (al : Value) (sl : Nat → Value) (i x : Nat) (h : Rg w f g C top gb mx al sl) (hi : i < C) (htop : i < top → top < C) (hN : ∀ j, IsNum (sl j)) (hB : B ≤ f ∧ B ≤ g) :
    Calls Try.prog 47 #[.pointer (some ⟨f, 0, none⟩), .iface 59 (.float .f64 x), .int .i64 (i : Int)] w (InsPost w B f g C top gb mx al sl i (.iface 59 (.float .f64 x))) := by
  have H := Lib.hid h
  obtain ⟨l1, l2, l3, l4⟩ := h.le
  have p0 := (h.head.cell 0).trans rfl
  have q1 := (h.head.cell 1).trans rfl
  have r0 := (h.row.cell i).trans (rowOf_at hi)
  have rf := h.row.frozen i
  have f1 := h.head.frozen 1
  have hne := h.ne
  have hne' : ¬ g = f := fun e => hne e.symm
  have i0 : (0 : Int) ≤ (i : Int) := by omega
  have i1 : (i : Int) < (C : Int) := by omega
  clear h
  by_cases hit : i < top
  · have htC := htop hit
    have hnt : ¬ (top : Int) ≤ (i : Int) := by omega
    have HN := Lib.hid hN
    clear htop hN r0 rf
    go_enter Try.func47, Try.ntmps47
    go_wp2_with fail
    refine (top_c w f g C top gb mx al sl H.out).mono ?_; rintro e w' ⟨rfl, rfl⟩
    go_wp2_with fail
    clear p0 q1 f1 i0 i1 hnt
    have hd1 : decide (top ≤ i) = false := by simp; omega
    have hd2 : decide ((top : Int) ≤ (i : Int)) = false := by simp; omega
    try simp only [hd1]
    try simp only [hd2]
    clear hd1 hd2
    go_loopw [6] (fun t wr => ∃ k T : Nat, i ≤ k ∧ k ≤ top ∧ t = .int .i64 ((k : Int) - 1) ∧ Hid (T = if k = top then top else top + 1) ∧ Hid (Rg wr f g C T gb mx al (shUp sl k top)) ∧ Hid (Below B w wr)) (fun t _ => (intOf t + 1).toNat - i)
    case atStart => exact ⟨top, top, by omega, Nat.le_refl _, rfl, Lib.hid (by rw [if_pos rfl]), Lib.hid (by rw [shUp_top]; exact H.out), Below.refl _ _⟩
    case round =>
      obtain ⟨k, T, hik, hkt, rfl, hT, hR, hBw⟩ := hrel
      have s0 := (hR.out.head.cell 0).trans rfl
      have s1 := (hR.out.head.cell 1).trans rfl
      have f1 := hR.out.head.frozen 1
      by_cases hlt : i < k
      · have u0 := (hR.out.row.cell k).trans (rowOf_at (by omega))
        have uf := hR.out.row.frozen k
        have G := Lib.hid (get_c wr f g C T gb mx al _ (k - 1) hR.out (by omega))
        rw [shUp_at _ _ _ (by omega), show ((k - 1 : Nat) : Int) = (k : Int) - 1 by omega] at G
        have ek : (k : Int) - 1 + 1 = (k : Int) := by omega
        have i0 : (0 : Int) ≤ (k : Int) := by omega
        have i1 : (k : Int) < (C : Int) := by omega
        have i2 : (i : Int) ≤ (k : Int) - 1 := by omega
        have hcell1 : ¬ (C : Int) < (k : Int) + 1 := by omega
        by_cases htk : k = top
        · have hTk : T = top := by have := hT.out; rw [if_pos htk] at this; exact this
          have hTi : (T : Int) ≤ (k : Int) := by omega
          rcases HN.out (k - 1) with hv | ⟨y, hv⟩
          · rw [hv] at G
            have NX := hR.out.raised k .nilIface rfl (by omega) (by omega)
            rw [show max T (k + 1) = top + 1 by omega, show upd (shUp sl k top) k .nilIface = shUp sl (k - 1) top by rw [← hv]; exact shUp_step sl k top (by omega) hkt] at NX
            have NX' := Lib.hid NX
            have B' : Hid (Below B w ((wr.setCell ⟨g, k, none⟩ .nilIface).setCell ⟨f, 1, none⟩ (.int .i64 ((k : Int) + 1)))) := Lib.hid ((hBw.out.setCell hB.2 _).setCell hB.1 _)
            have HT := Lib.hid (And.intro hTk (And.intro hik hkt))
            clear NX hv hTk htk
            go_wp2_with fail
            refine G.out.mono ?_; rintro e w' ⟨rfl, rfl⟩
            go_wp2_with fail
            go_roundw
            case rel => exact ⟨k - 1, top + 1, by omega, by omega, by go_num, Lib.hid (by rw [if_neg (by omega)]), NX'.out, B'.out⟩
            case measure => simp [intOf]; omega
          · rw [hv] at G
            have NX := hR.out.raised k (.iface 59 (.float .f64 y)) rfl (by omega) (by omega)
            rw [show max T (k + 1) = top + 1 by omega, show upd (shUp sl k top) k (.iface 59 (.float .f64 y)) = shUp sl (k - 1) top by rw [← hv]; exact shUp_step sl k top (by omega) hkt] at NX
            have NX' := Lib.hid NX
            have B' : Hid (Below B w ((wr.setCell ⟨g, k, none⟩ (.iface 59 (.float .f64 y))).setCell ⟨f, 1, none⟩ (.int .i64 ((k : Int) + 1)))) := Lib.hid ((hBw.out.setCell hB.2 _).setCell hB.1 _)
            have HT := Lib.hid (And.intro hTk (And.intro hik hkt))
            clear NX hv hTk htk
            go_wp2_with fail
            refine G.out.mono ?_; rintro e w' ⟨rfl, rfl⟩
            go_wp2_with fail
            go_roundw
            case rel => exact ⟨k - 1, top + 1, by omega, by omega, by go_num, Lib.hid (by rw [if_neg (by omega)]), NX'.out, B'.out⟩
            case measure => simp [intOf]; omega
        · have hTk : T = top + 1 := by have := hT.out; rw [if_neg htk] at this; exact this
          have hTi : ¬ (T : Int) ≤ (k : Int) := by omega
          rcases HN.out (k - 1) with hv | ⟨y, hv⟩
          · rw [hv] at G
            have NX := hR.out.stored k .nilIface rfl (by omega) (by omega)
            rw [show max T (k + 1) = top + 1 by omega, show upd (shUp sl k top) k .nilIface = shUp sl (k - 1) top by rw [← hv]; exact shUp_step sl k top (by omega) hkt] at NX
            have NX' := Lib.hid NX
            have B' : Hid (Below B w (wr.setCell ⟨g, k, none⟩ .nilIface)) := Lib.hid (hBw.out.setCell hB.2 _)
            have HT := Lib.hid (And.intro hTk (And.intro hik hkt))
            clear NX hv hTk htk
            go_wp2_with fail
            refine G.out.mono ?_; rintro e w' ⟨rfl, rfl⟩
            go_wp2_with fail
            go_roundw
            case rel => exact ⟨k - 1, top + 1, by omega, by omega, by go_num, Lib.hid (by rw [if_neg (by omega)]), NX'.out, B'.out⟩
            case measure => simp [intOf]; omega
          · rw [hv] at G
            have NX := hR.out.stored k (.iface 59 (.float .f64 y)) rfl (by omega) (by omega)
            rw [show max T (k + 1) = top + 1 by omega, show upd (shUp sl k top) k (.iface 59 (.float .f64 y)) = shUp sl (k - 1) top by rw [← hv]; exact shUp_step sl k top (by omega) hkt] at NX
            have NX' := Lib.hid NX
            have B' : Hid (Below B w (wr.setCell ⟨g, k, none⟩ (.iface 59 (.float .f64 y)))) := Lib.hid (hBw.out.setCell hB.2 _)
            have HT := Lib.hid (And.intro hTk (And.intro hik hkt))
            clear NX hv hTk htk
            go_wp2_with fail
            refine G.out.mono ?_; rintro e w' ⟨rfl, rfl⟩
            go_wp2_with fail
            go_roundw
            case rel => exact ⟨k - 1, top + 1, by omega, by omega, by go_num, Lib.hid (by rw [if_neg (by omega)]), NX'.out, B'.out⟩
            case measure => simp [intOf]; omega
      · obtain rfl : k = i := by omega
        have hTk : T = top + 1 := by have := hT.out; rw [if_neg (by omega)] at this; exact this
        have u0 := (hR.out.row.cell k).trans (rowOf_at hi)
        have uf := hR.out.row.frozen k
        have i0 : (0 : Int) ≤ (k : Int) := by omega
        have i1 : (k : Int) < (C : Int) := by omega
        have i2 : ¬ (k : Int) ≤ (k : Int) - 1 := by omega
        have hTi : ¬ (T : Int) ≤ (k : Int) := by omega
        have hcell1 : ¬ (C : Int) < (k : Int) + 1 := by omega
        have NX := hR.out.stored k (.iface 59 (.float .f64 x)) rfl hi (by omega)
        rw [show max T (k + 1) = top + 1 by omega] at NX
        have NX' := Lib.hid NX
        clear NX hTk
        go_wp2_with fail
        go_end0
        refine ⟨rfl, ?_, hBw.out.setCell hB.2 _⟩
        rw [if_pos hit, insSl, if_pos hit]
        exact NX'.out
  · have hnt : (top : Int) ≤ (i : Int) := by omega
    have T := Lib.hid (H.out.raised i (.iface 59 (.float .f64 x)) rfl hi (by omega))
    rw [show max top (i + 1) = i + 1 by omega] at T
    clear htop hN
    go_enter Try.func47, Try.ntmps47
    go_wp2_with fail
    refine (top_c w f g C top gb mx al sl H.out).mono ?_; rintro e w' ⟨rfl, rfl⟩
    go_wp2_with fail
    go_end0
    refine ⟨rfl, ?_, ((Below.refl B w).setCell hB.2 _).setCell hB.1 _⟩
    rw [if_neg hit, insSl, if_neg hit]
    exact T.out
end Go.Proofs.Ytddmpdiidnamkaa
