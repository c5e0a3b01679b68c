/-
  The plain model of a script of pushes and pops, and the walk through zzRun: the store holds the two stacks of the model.
-/
import Derived.Test.YtmcpjhkkdjhboaaRead
import Derived.StillTailTactics
namespace Go.Proofs.Ytmcpjhkkdjhboaa
open Go.RowKit
set_option linter.unusedVariables false

/-- One step of a script: a pop where it is asked for and something is there; else a push. -/
def stp (S : List Int) (p : Bool) (x : Int) : List Int := if p = true ∧ 0 < S.length then S.dropLast else S ++ [x]
/-- The stack behind k steps. -/
def stk (xs : List Int) (ps : List Bool) : Nat → List Int
  | 0 => []
  | k + 1 => stp (stk xs ps k) (ps.getD k false) (xs.getD k 0)

theorem stk_pop {xs : List Int} {ps : List Bool} {k : Nat} (hp : ps[k]? = some true) (hl : 0 < (stk xs ps k).length) : stk xs ps (k + 1) = (stk xs ps k).dropLast := by
  rw [stk, stp, List.getD_eq_getElem?_getD, hp, if_pos ⟨rfl, hl⟩]
theorem stk_push {xs : List Int} {ps : List Bool} {k : Nat} {b : Bool} {x : Int} (hp : ps[k]? = some b) (hx : xs[k]? = some x) (hl : ¬ (b = true ∧ 0 < (stk xs ps k).length)) : stk xs ps (k + 1) = stk xs ps k ++ [x] := by
  rw [stk, stp, List.getD_eq_getElem?_getD, List.getD_eq_getElem?_getD, hp, hx, Option.getD_some, Option.getD_some, if_neg hl]
theorem stk_len (xs ys : List Int) (ps : List Bool) (k : Nat) : (stk xs ps k).length = (stk ys ps k).length := by
  induction k with
  | zero => rfl
  | succ k ih =>
    rw [stk, stk, stp, stp, ← ih]
    split <;> simp [ih]
theorem stk_le (xs : List Int) (ps : List Bool) (k : Nat) : (stk xs ps k).length ≤ k := by
  induction k with
  | zero => simp [stk]
  | succ k ih =>
    rw [stk, stp]
    split <;> simp <;> omega

structure Scr (w0 : World) (A1 A2 A3 : Option Addr) (n1 c1 n2 c2 n3 c3 n : Nat) (is ls : List Int) (ps : List Bool) : Prop where
  a1 : Arg w0 A1 n1 c1 (is.map (Value.int .u32))
  a2 : Arg w0 A2 n2 c2 (ls.map (Value.int .i64))
  a3 : Arg w0 A3 n3 c3 (ps.map Value.bool)
  l1 : n ≤ n1
  l2 : n ≤ n2
  l3 : n ≤ n3

/-- The cell of element k of an argument, in a later world. -/
theorem Arg.at_ {w0 w : World} {A : Option Addr} {n c k : Nat} {xs : List Value} (h : Arg w0 A n c xs) (hb : Below w0.heap.size w0 w) (hk : k < n) :
    ∃ b off u, A = some ⟨b, off, none⟩ ∧ xs[k]? = some u ∧ w.cell? ⟨b, off + k, none⟩ = some u ∧ b < w0.heap.size := by
  obtain ⟨b, off, e, hlt, hc⟩ := h.2.2.2.2 (by omega)
  have hl : k < xs.length := by rw [h.1]; exact hk
  exact ⟨b, off, xs[k], e, List.getElem?_eq_getElem hl, (hb.cell (by exact hlt)).trans (hc k _ (List.getElem?_eq_getElem hl)), hlt⟩

theorem map_get {α : Type} {f : α → Value} {zs : List α} {k : Nat} {u : Value} (h : (zs.map f)[k]? = some u) : ∃ z, zs[k]? = some z ∧ u = f z := by
  rw [List.getElem?_map] at h
  cases hz : zs[k]? with
  | none => rw [hz] at h; cases h
  | some z => rw [hz] at h; exact ⟨z, rfl, by simpa using h.symm⟩

theorem Store.drew {w : World} {B d : Nat} {S L : List Int} (h : Store w B d S L) : Store w.drew B d S L := h
theorem Store.drewN {w : World} {B d q : Nat} {S L : List Int} (h : Store w B d S L) : Store (w.drewN q) B d S L := h

def RunPost (B d n : Nat) (is ls : List Int) (ps : List Bool) (w : World) (e : Ending) (w' : World) : Prop :=
  ∃ a p : Nat, e = .returned (.tuple #[.int .i64 a, .int .i64 p]) ∧ a ≤ n ∧ p + (stk is ps n).length = a ∧ Store w' B d (stk is ps n) (stk ls ps n) ∧ Below B w w'

theorem run_c (w0 w : World) (d : Nat) (A1 A2 A3 : Option Addr) (n1 c1 n2 c2 n3 c3 n : Nat) (is ls : List Int) (ps : List Bool) (hs : Scr w0 A1 A2 A3 n1 c1 n2 c2 n3 c3 n is ls ps) (hm : n ≤ 65536)
    (hb : Below w0.heap.size w0 w) (hst : Store w w0.heap.size d [] []) :
    Calls Try.prog 17 #[.pointer (some ⟨d, 0, none⟩), .slice A1 n1 c1, .slice A2 n2 c2, .slice A3 n3 c3, .int .i64 n] w (RunPost w0.heap.size d n is ls ps w) := by
  have HS := Lib.hid hs
  have HB := Lib.hid hb
  have HT := Lib.hid hst
  clear hs hb hst
  go_enter Try.func17, Try.ntmps17
  go_wp2
  go_loopw [12, 13, 14] (fun a p i wr => ∃ k a' p' : Nat, k ≤ n ∧ i = .int .i64 k ∧ a = .int .i64 a' ∧ p = .int .i64 p' ∧ a' ≤ k ∧ p' ≤ a' ∧ p' + (stk is ps k).length = a' ∧ Hid (Store wr w0.heap.size d (stk is ps k) (stk ls ps k)) ∧ Below w0.heap.size w wr) (fun _ _ i _ => n - (intOf i).toNat)
  case atStart => exact ⟨0, 0, 0, Nat.zero_le _, rfl, rfl, rfl, Nat.le_refl _, Nat.le_refl _, rfl, HT.out, Below.refl _ _⟩
  case round =>
    obtain ⟨k, a, p, hk, rfl, rfl, rfl, hak, hpa, hlen, hSt, hbel⟩ := hrel
    have HLEN := Lib.hid hlen
    have HBEL := Lib.hid hbel
    clear hlen hbel
    by_cases hlt : k < n
    · have hbb := Lib.hid (HB.out.trans HBEL.out)
      have hl1 := HS.out.l1
      have hl2 := HS.out.l2
      have hl3 := HS.out.l3
      obtain ⟨b1, o1, u1, e1, x1, cell1, lt1⟩ := HS.out.a1.at_ hbb.out (k := k) (by omega)
      obtain ⟨b2, o2, u2, e2, x2, cell2, lt2⟩ := HS.out.a2.at_ hbb.out (k := k) (by omega)
      obtain ⟨b3, o3, u3, e3, x3, cell3, lt3⟩ := HS.out.a3.at_ hbb.out (k := k) (by omega)
      subst e1 e2 e3
      obtain ⟨x, X1, rfl⟩ := map_get x1
      obtain ⟨l, X2, rfl⟩ := map_get x2
      obtain ⟨q, X3, rfl⟩ := map_get x3
      have i0 : (0 : Int) ≤ (k : Int) := by omega
      have i1 : (k : Int) < (n1 : Int) := by omega
      have i2 : (k : Int) < (n2 : Int) := by omega
      have i3 : (k : Int) < (n3 : Int) := by omega
      have hsl := stk_le is ps k
      have sl := stk_len is ls ps k
      have Y1 := Lib.hid X1
      have Y2 := Lib.hid X2
      have Y3 := Lib.hid X3
      clear x1 x2 x3 X1 X2 X3
      have hae : Hid ((a : Int) - (p : Int) = ((stk is ps k).length : Int)) := by have := HLEN.out; show _ = _; omega
      cases q
      · have hp : ¬ (false = true ∧ 0 < (stk is ps k).length) := by simp
        have E1 := stk_push Y3.out Y1.out hp
        have E2 := stk_push Y3.out Y2.out (by simp)
        have T : Hid (stk is ps (k + 1) = stk is ps k ++ [x] ∧ stk ls ps (k + 1) = stk ls ps k ++ [l]) := ⟨E1, E2⟩
        clear E1 E2 hp sl
        go_wp2_with fail
        go_still_tail 9, (by kernel_rfl)
        go_wp2_with fail
        refine (add_c _ w0.heap.size d (stk is ps k) (stk ls ps k) x l hSt.out.drew (by omega)).mono ?_
        rintro e w1 ⟨rfl, hst1, hb1, -⟩
        rw [← T.out.1, ← T.out.2] at hst1
        have HT1 := Lib.hid hst1
        have HB1 := Lib.hid hb1
        clear hst1 hb1
        go_wp2
        go_roundw
        case rel => exact ⟨k + 1, a + 1, p, by omega, by go_num, by go_num, rfl, by omega, by omega, by rw [T.out.1, List.length_append]; have := HLEN.out; simp; omega, HT1.out, HBEL.out.drew.trans HB1.out⟩
        case measure => simp [intOf]; omega
      · by_cases hpos : 0 < (stk is ps k).length
        · have hgt : (0 : Int) < (a : Int) - (p : Int) := by rw [hae.out]; omega
          have E1 := stk_pop (xs := is) Y3.out hpos
          have E2 := stk_pop (xs := ls) Y3.out (by rw [← sl]; exact hpos)
          have T : Hid (stk is ps (k + 1) = (stk is ps k).dropLast ∧ stk ls ps (k + 1) = (stk ls ps k).dropLast) := ⟨E1, E2⟩
          clear E1 E2 sl
          go_wp2_with fail
          refine (pop_c _ w0.heap.size d (stk is ps k) (stk ls ps k) hSt.out hpos).mono ?_
          rintro e w1 ⟨rfl, hst1, hb1, -⟩
          rw [← T.out.1, ← T.out.2] at hst1
          have HT1 := Lib.hid hst1
          have HB1 := Lib.hid hb1
          clear hst1 hb1
          go_wp2
          go_roundw
          case rel => exact ⟨k + 1, a, p + 1, by omega, by go_num, rfl, by go_num, by omega, by have := HLEN.out; omega, by rw [T.out.1, List.length_dropLast]; have := HLEN.out; omega, HT1.out, HBEL.out.trans HB1.out⟩
          case measure => simp [intOf]; omega
        · have hgt : ¬ (0 : Int) < (a : Int) - (p : Int) := by rw [hae.out]; omega
          have E1 := stk_push (xs := is) Y3.out Y1.out (fun h => hpos h.2)
          have E2 := stk_push (xs := ls) Y3.out Y2.out (fun h => hpos (by rw [sl]; exact h.2))
          have T : Hid (stk is ps (k + 1) = stk is ps k ++ [x] ∧ stk ls ps (k + 1) = stk ls ps k ++ [l]) := ⟨E1, E2⟩
          clear E1 E2 sl
          go_wp2_with fail
          go_still_tail 9, (by kernel_rfl)
          go_wp2_with fail
          refine (add_c _ w0.heap.size d (stk is ps k) (stk ls ps k) x l hSt.out.drew (by omega)).mono ?_
          rintro e w1 ⟨rfl, hst1, hb1, -⟩
          rw [← T.out.1, ← T.out.2] at hst1
          have HT1 := Lib.hid hst1
          have HB1 := Lib.hid hb1
          clear hst1 hb1
          go_wp2
          go_roundw
          case rel => exact ⟨k + 1, a + 1, p, by omega, by go_num, by go_num, rfl, by omega, by omega, by rw [T.out.1, List.length_append]; have := HLEN.out; simp; omega, HT1.out, HBEL.out.drew.trans HB1.out⟩
          case measure => simp [intOf]; omega
    · obtain rfl : k = n := by omega
      go_wp2
      go_ret2
      exact ⟨a, p, rfl, hak, HLEN.out, hSt.out, HBEL.out⟩
end Go.Proofs.Ytmcpjhkkdjhboaa
