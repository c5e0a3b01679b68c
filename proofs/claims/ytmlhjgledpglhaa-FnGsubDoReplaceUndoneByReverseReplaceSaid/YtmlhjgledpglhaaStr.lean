/-
  The walks through strCmp and through the laws' own byte-wise comparison: both hand back the plain order of two lists of bytes.
-/
import Derived.Test.YtmlhjgledpglhaaRows
import Derived.Test.YtmlhjgledpglhaaBase
import Derived.WalkSpells
import Derived.Outline
namespace Go.Proofs.Ytmlhjgledpglhaa
open Go.RowKit
set_option linter.unusedVariables false

/-- The bytes of a string, as numbers. -/
def bs (s : ByteArray) : List Nat := s.data.toList.map UInt8.toNat
theorem bs_length (s : ByteArray) : (bs s).length = s.size := by unfold bs; rw [List.length_map]; rfl
theorem bs_inj {a b : ByteArray} (h : bs a = bs b) : a = b := by
  have h' : a.data.toList = b.data.toList := (List.map_inj_right (fun x y e => UInt8.toNat_inj.1 e)).1 h
  cases a; cases b
  simpa using h'
theorem bs_lt {s : ByteArray} {k z : Nat} (h : (bs s)[k]? = some z) : z < 256 := by
  unfold bs at h
  rw [List.getElem?_map] at h
  cases hz : s.data.toList[k]? with
  | none => rw [hz] at h; cases h
  | some u => rw [hz] at h; simp at h; rw [← h]; exact u.toNat_lt
theorem bs_some {s : ByteArray} {k : Nat} (h : k < s.size) : ∃ z, (bs s)[k]? = some z ∧ z < 256 := by
  have hk : k < (bs s).length := by rw [bs_length]; exact h
  exact ⟨_, List.getElem?_eq_getElem hk, bs_lt (List.getElem?_eq_getElem hk)⟩
theorem run_at {s : ByteArray} {k z : Nat} (h : (bs s)[k]? = some z) (w : World) : (Instr.index 9 (.string s) (.int .i64 (k : Int))).run Try.prog w = .ok (.int .u8 (z : Int)) w := by
  have hk : k < s.size := by rw [← bs_length]; exact (List.getElem?_eq_some_iff.1 h).1
  rw [run_index_string w 9 s .i64 _ (by kernel_rfl), dif_pos ⟨by omega, by omega⟩]
  unfold bs at h
  rw [List.getElem?_map] at h
  have e : s.data.toList[k]? = some (s[k]'hk) := by
    rw [Array.getElem?_toList]
    exact Array.getElem?_eq_getElem hk
  rw [e] at h
  simp at h
  simp [h]

/-- The order of two lists of bytes: the first difference decides; a proper prefix comes first. -/
def cmpL : List Nat → List Nat → Int
  | [], [] => 0
  | [], _ :: _ => -1
  | _ :: _, [] => 1
  | x :: xs, y :: ys => if x < y then -1 else if y < x then 1 else cmpL xs ys

theorem cmpL_drop {A B : List Nat} {k x y : Nat} (hx : A[k]? = some x) (hy : B[k]? = some y) : cmpL (A.drop k) (B.drop k) = if x < y then -1 else if y < x then 1 else cmpL (A.drop (k + 1)) (B.drop (k + 1)) := by
  obtain ⟨h1, h2⟩ := List.getElem?_eq_some_iff.1 hx
  obtain ⟨h3, h4⟩ := List.getElem?_eq_some_iff.1 hy
  rw [List.drop_eq_getElem_cons h1, List.drop_eq_getElem_cons h3, h2, h4, cmpL]
theorem cmpL_left {A B : List Nat} {k : Nat} (hA : A.length = k) (hB : k < B.length) : cmpL (A.drop k) (B.drop k) = -1 := by
  rw [List.drop_eq_nil_of_le (by omega), List.drop_eq_getElem_cons hB, cmpL]
theorem cmpL_right {A B : List Nat} {k : Nat} (hA : k < A.length) (hB : B.length = k) : cmpL (A.drop k) (B.drop k) = 1 := by
  rw [List.drop_eq_nil_of_le (show B.length ≤ k by omega), List.drop_eq_getElem_cons hA, cmpL]
theorem cmpL_both {A B : List Nat} {k : Nat} (hA : A.length = k) (hB : B.length = k) : cmpL (A.drop k) (B.drop k) = 0 := by
  rw [List.drop_eq_nil_of_le (show B.length ≤ k by omega), List.drop_eq_nil_of_le (show A.length ≤ k by omega), cmpL]
theorem cmpL_three : ∀ A B : List Nat, cmpL A B = -1 ∨ cmpL A B = 0 ∨ cmpL A B = 1
  | [], [] => by simp [cmpL]
  | [], _ :: _ => by simp [cmpL]
  | _ :: _, [] => by simp [cmpL]
  | x :: xs, y :: ys => by
    rw [cmpL]
    split
    · simp
    · split
      · simp
      · exact cmpL_three xs ys
theorem cmpL_swap : ∀ A B : List Nat, cmpL B A = - cmpL A B
  | [], [] => by simp [cmpL]
  | [], _ :: _ => by simp [cmpL]
  | _ :: _, [] => by simp [cmpL]
  | x :: xs, y :: ys => by
    have ih := cmpL_swap xs ys
    rw [cmpL, cmpL]
    split
    · split
      · omega
      · simp
    · split
      · simp
      · exact ih
theorem cmpL_self : ∀ A : List Nat, cmpL A A = 0
  | [] => by simp [cmpL]
  | x :: xs => by rw [cmpL, if_neg (Nat.lt_irrefl _), if_neg (Nat.lt_irrefl _)]; exact cmpL_self xs
theorem cmpL_zero : ∀ A B : List Nat, cmpL A B = 0 → A = B
  | [], [] => fun _ => rfl
  | [], _ :: _ => by simp [cmpL]
  | _ :: _, [] => by simp [cmpL]
  | x :: xs, y :: ys => by
    rw [cmpL]
    split
    · simp
    · split
      · simp
      · intro h
        rw [cmpL_zero xs ys h, show x = y by omega]
theorem cmpL_trans : ∀ A B C : List Nat, (cmpL A B ≤ 0 → cmpL B C ≤ 0 → cmpL A C ≤ 0) ∧ (cmpL A B < 0 → cmpL B C ≤ 0 → cmpL A C < 0) ∧ (cmpL A B ≤ 0 → cmpL B C < 0 → cmpL A C < 0)
  | [], [], [] => by simp [cmpL]
  | [], [], _ :: _ => by simp [cmpL]
  | [], _ :: _, [] => by simp [cmpL]
  | [], _ :: _, _ :: _ => by simp [cmpL]
  | _ :: _, [], [] => by simp [cmpL]
  | _ :: _, [], _ :: _ => by simp [cmpL]
  | _ :: _, _ :: _, [] => by simp [cmpL]
  | x :: xs, y :: ys, z :: zs => by
    have ih := cmpL_trans xs ys zs
    rw [cmpL, cmpL, cmpL]
    refine ⟨?_, ?_, ?_⟩ <;> (intro h1 h2; split at h1 <;> (try split at h1) <;> split at h2 <;> (try split at h2) <;> (try split) <;> (try split) <;> first | omega | (exfalso; omega) | exact ih.1 h1 h2 | exact ih.2.1 h1 h2 | exact ih.2.2 h1 h2)

theorem strCmp_c (a b : ByteArray) (w : World) (ha : a.size ≤ 1048576) (hb : b.size ≤ 1048576) :
    Calls Try.prog 38 #[.string a, .string b] w fun e w' => e = .returned (.int .i64 (cmpL (bs a) (bs b))) ∧ w = w' := by
  have LA := Lib.hid (bs_length a)
  have LB := Lib.hid (bs_length b)
  go_enter Try.func38, Try.ntmps38
  go_wp2
  go_loopw [7] (fun i wr => ∃ k : Nat, k ≤ a.size ∧ k ≤ b.size ∧ i = .int .i64 k ∧ Hid (cmpL ((bs a).drop k) ((bs b).drop k) = cmpL (bs a) (bs b)) ∧ wr = w) (fun i _ => a.size + 1 - (intOf i).toNat)
  case atStart => exact ⟨0, Nat.zero_le _, Nat.zero_le _, rfl, Lib.hid rfl, rfl⟩
  case round =>
    obtain ⟨k, hk1, hk2, rfl, hC, rfl⟩ := hrel
    have i0 : (0 : Int) ≤ (k : Int) := by omega
    by_cases h1 : k < a.size
    · obtain ⟨x, hx, hx2⟩ := bs_some h1
      have X1 := run_at hx
      have HX := Lib.hid hx
      have j1 : (k : Int) < (a.size : Int) := by omega
      clear hx
      by_cases h2 : k < b.size
      · obtain ⟨y, hy, hy2⟩ := bs_some h2
        have Y1 := run_at hy
        have HY := Lib.hid hy
        have j2 : ((k : Int) == (b.size : Int)) = false := by simp <;> omega
        clear hy
        rcases Nat.lt_trichotomy x y with hxy | hxy | hxy
        · have HD : Hid (cmpL (bs a) (bs b) = -1) := by show _ = _; rw [← hC.out, cmpL_drop HX.out HY.out, if_pos hxy]
          have q1 : (x : Int) < (y : Int) := by omega
          go_wp2
          go_ret
          exact ⟨by rw [HD.out]; rfl, rfl⟩
        · subst hxy
          have HD : Hid (cmpL ((bs a).drop (k + 1)) ((bs b).drop (k + 1)) = cmpL (bs a) (bs b)) := by show _ = _; rw [← hC.out, cmpL_drop HX.out HY.out, if_neg (Nat.lt_irrefl _), if_neg (Nat.lt_irrefl _)]
          have q1 : ¬ (x : Int) < 0 := by omega
          go_wp2
          go_roundw
          case rel => exact ⟨k + 1, by omega, by omega, by go_num, HD.out, by first | trivial | rfl⟩
          case measure => simp [intOf]; omega
        · have HD : Hid (cmpL (bs a) (bs b) = 1) := by show _ = _; rw [← hC.out, cmpL_drop HX.out HY.out, if_neg (by omega), if_pos hxy]
          have q1 : ¬ (x : Int) < (y : Int) := by omega
          have q2 : (y : Int) < (x : Int) := by omega
          go_wp2
          go_ret
          exact ⟨by rw [HD.out]; rfl, rfl⟩
      · have j2 : ((k : Int) == (b.size : Int)) = true := by simp <;> omega
        have HD : Hid (cmpL (bs a) (bs b) = 1) := by show _ = _; rw [← hC.out, cmpL_right (by rw [LA.out]; exact h1) (by rw [LB.out]; omega)]
        have q1 : ¬ (x : Int) < -1 := by omega
        have q2 : (-1 : Int) < (x : Int) := by omega
        go_wp2
        go_ret
        exact ⟨by rw [HD.out]; rfl, rfl⟩
    · have j1 : ¬ (k : Int) < (a.size : Int) := by omega
      by_cases h2 : k < b.size
      · obtain ⟨y, hy, hy2⟩ := bs_some h2
        have Y1 := run_at hy
        have j2 : ((k : Int) == (b.size : Int)) = false := by simp <;> omega
        clear hy
        have HD : Hid (cmpL (bs a) (bs b) = -1) := by show _ = _; rw [← hC.out, cmpL_left (by rw [LA.out]; omega) (by rw [LB.out]; exact h2)]
        have q2 : (-1 : Int) < (y : Int) := by omega
        go_wp2
        go_ret
        exact ⟨by rw [HD.out]; rfl, rfl⟩
      · have j2 : ((k : Int) == (b.size : Int)) = true := by simp <;> omega
        have HD : Hid (cmpL (bs a) (bs b) = 0) := by show _ = _; rw [← hC.out, cmpL_both (by rw [LA.out]; omega) (by rw [LB.out]; omega)]
        go_wp2
        go_ret
        exact ⟨by rw [HD.out]; rfl, rfl⟩
end Go.Proofs.Ytmlhjgledpglhaa
