/-
  The walks through the helpers of the registry laws: the bounds, the script's check, two numbers compared, the model and the comparison with it.
-/
import Derived.Test.YtddmpdiidnamkaaSet
namespace Go.Proofs.Ytddmpdiidnamkaa
open Go.RowKit
set_option linter.unusedVariables false

def PB (n g m : Int) : Prop := 0 ≤ n ∧ n ≤ 4096 ∧ 0 ≤ g ∧ g ≤ 65536 ∧ n ≤ m ∧ m ≤ 65536
/-- Two numbers are the same: equal, or both no numbers. -/
def SameN (a b : Nat) : Prop := feq a b = true ∨ (feq a a = false ∧ feq b b = false)
theorem SameN.refl (a : Nat) : SameN a a := by unfold SameN; cases feq a a <;> simp
theorem cmp_eq {x y : Int} (h : compare x y = .eq) : x = y := by
  have h' : compareOfLessAndEq x y = .eq := h
  unfold compareOfLessAndEq at h'
  by_cases h1 : x < y
  · rw [if_pos h1] at h'; cases h'
  · rw [if_neg h1] at h'
    by_cases h2 : x = y
    · exact h2
    · rw [if_neg h2] at h'; cases h'
theorem cmp_self (x : Int) : compare x x = .eq := by
  show compareOfLessAndEq x x = .eq
  unfold compareOfLessAndEq
  rw [if_neg (by omega), if_pos rfl]
/-- A float stored, for the walk. -/
theorem run_store_float (P : Program) (w : World) (a : Addr) (m : Mode) (k : FloatKind) (b : Nat) : (store a (.float k b) m).run P w = stored P w a (.float k b) m := run_store P w a _ m rfl
attribute [local go_sem] run_store_float
theorem dord {a b : Ieee.Datum} (h : a.order b = some .eq) : b.order a = some .eq := by
  cases a with
  | nan s x => cases b <;> simp [Ieee.Datum.order] at h
  | infinity s =>
    cases b with
    | nan t y => simp [Ieee.Datum.order] at h
    | infinity t =>
      simp only [Ieee.Datum.order, Option.some.injEq] at h ⊢
      cases s <;> cases t <;> first | rfl | (exact absurd h (by decide))
    | number t y j =>
      simp only [Ieee.Datum.order, Option.some.injEq] at h
      cases s <;> simp at h
  | number s x i =>
    cases b with
    | nan t y => simp [Ieee.Datum.order] at h
    | infinity t =>
      simp only [Ieee.Datum.order, Option.some.injEq] at h
      cases t <;> simp at h
    | number t y j =>
      simp only [Ieee.Datum.order, Option.some.injEq] at h ⊢
      rw [Int.min_comm j i]
      have e := cmp_eq h
      rw [e]
      exact cmp_self _
theorem feq_symm {a b : Nat} (h : feq a b = true) : feq b a = true := by
  unfold feq at h ⊢
  rw [beq_iff_eq] at h ⊢
  exact dord h

/-- What a list of writes leaves at each slot. -/
def lw (L : List (Nat × Nat)) : Nat → Option Nat := L.foldl (fun g p => fun j => if j = p.1 then some p.2 else g j) (fun _ => none)
def topw (L : List (Nat × Nat)) : Nat := L.foldl (fun t p => max t (p.1 + 1)) 0
theorem lw_snoc (L : List (Nat × Nat)) (i x : Nat) : lw (L ++ [(i, x)]) = fun j => if j = i then some x else lw L j := by unfold lw; rw [List.foldl_append]; rfl
theorem topw_snoc (L : List (Nat × Nat)) (i x : Nat) : topw (L ++ [(i, x)]) = max (topw L) (i + 1) := by unfold topw; rw [List.foldl_append]; rfl
/-- The greatest written slot, plus one. -/
def tb (S : Nat → Bool) : Nat → Nat
  | 0 => 0
  | j + 1 => if S j then j + 1 else tb S j
theorem tb_le (S : Nat → Bool) : ∀ m, tb S m ≤ m
  | 0 => Nat.le_refl _
  | m + 1 => by
    have := tb_le S m
    unfold tb
    split <;> omega
theorem tb_eq (S : Nat → Bool) (t : Nat) (h1 : ∀ j, t ≤ j → S j = false) (h2 : t = 0 ∨ S (t - 1) = true) : ∀ m, t ≤ m → tb S m = t
  | 0, h => by unfold tb; omega
  | m + 1, h => by
    unfold tb
    by_cases e : t = m + 1
    · subst e
      rcases h2 with h2 | h2
      · omega
      · rw [Nat.add_sub_cancel] at h2
        rw [if_pos h2]
    · rw [h1 m (by omega), if_neg (by simp)]
      exact tb_eq S t h1 h2 m (by omega)
theorem lw_top : ∀ L : List (Nat × Nat), (∀ j, topw L ≤ j → lw L j = none) ∧ (topw L = 0 ∨ (lw L (topw L - 1)).isSome = true) := by
  intro L
  have hh : ∀ k, (∀ j, topw (L.take k) ≤ j → lw (L.take k) j = none) ∧ (topw (L.take k) = 0 ∨ (lw (L.take k) (topw (L.take k) - 1)).isSome = true) := by
    intro k
    induction k with
    | zero => exact ⟨fun j _ => rfl, .inl rfl⟩
    | succ k ih =>
      cases hx : L[k]? with
      | none =>
        have hl : L.length ≤ k := by simpa using hx
        rw [List.take_of_length_le (by omega)] at ih ⊢
        exact ih
      | some p =>
        obtain ⟨i, x⟩ := p
        have e : L.take (k + 1) = L.take k ++ [(i, x)] := by rw [List.take_add_one, hx]; rfl
        rw [e, lw_snoc, topw_snoc]
        refine ⟨fun j hj => ?_, .inr ?_⟩
        · show (if j = i then some x else lw (L.take k) j) = none
          rw [if_neg (by omega)]
          exact ih.1 j (by omega)
        · show (if max (topw (L.take k)) (i + 1) - 1 = i then some x else lw (L.take k) (max (topw (L.take k)) (i + 1) - 1)).isSome = true
          by_cases h1 : topw (L.take k) ≤ i + 1
          · rw [Nat.max_eq_right h1, Nat.add_sub_cancel]
            simp
          · rw [Nat.max_eq_left (by omega)]
            split
            · rfl
            · rcases ih.2 with h2 | h2
              · omega
              · exact h2
  have := hh L.length
  rwa [List.take_length] at this
theorem tb_lw (L : List (Nat × Nat)) (m : Nat) (h : topw L ≤ m) : tb (fun j => (lw L j).isSome) m = topw L :=
  tb_eq _ _ (fun j hj => by simp [(lw_top L).1 j hj]) (lw_top L).2 m h
/-- A slot's value. -/
def slOf (g : Nat → Option Nat) (j : Nat) : Value := match g j with | none => .nilIface | some x => .iface 59 (.float .f64 x)
theorem slOf_upd (g : Nat → Option Nat) (i x : Nat) : upd (slOf g) i (.iface 59 (.float .f64 x)) = slOf (fun j => if j = i then some x else g j) := by
  funext j
  unfold upd slOf
  by_cases e : j = i
  · simp [e]
  · simp [e]

theorem params9_yes (n g m : Int) (w : World) (h : PB n g m) : Calls Try.prog 9 #[.int .i64 n, .int .i64 g, .int .i64 m] w fun e w' => e = .returned (.bool true) ∧ w = w' := by
  obtain ⟨h1, h2, h3, h4, h5, h6⟩ := h
  go_enter Try.func9, Try.ntmps9
  go_wp2
  go_ret
  exact ⟨rfl, rfl⟩
theorem params9_no (n g m : Int) (w : World) (h : ¬ PB n g m) : Calls Try.prog 9 #[.int .i64 n, .int .i64 g, .int .i64 m] w fun e w' => e = .returned (.bool false) ∧ w = w' := by
  by_cases h1 : 0 ≤ n
  · by_cases h2 : n ≤ 4096
    · by_cases h3 : 0 ≤ g
      · by_cases h4 : g ≤ 65536
        · by_cases h5 : n ≤ m
          · have h6 : ¬ m ≤ 65536 := fun h6 => h ⟨h1, h2, h3, h4, h5, h6⟩
            clear h
            go_enter Try.func9, Try.ntmps9
            go_wp2
            go_ret
            exact ⟨rfl, rfl⟩
          · clear h
            go_enter Try.func9, Try.ntmps9
            go_wp2
            go_ret
            exact ⟨rfl, rfl⟩
        · clear h
          go_enter Try.func9, Try.ntmps9
          go_wp2
          go_ret
          exact ⟨rfl, rfl⟩
      · clear h
        go_enter Try.func9, Try.ntmps9
        go_wp2
        go_ret
        exact ⟨rfl, rfl⟩
    · clear h
      go_enter Try.func9, Try.ntmps9
      go_wp2
      go_ret
      exact ⟨rfl, rfl⟩
  · clear h
    go_enter Try.func9, Try.ntmps9
    go_wp2
    go_ret
    exact ⟨rfl, rfl⟩

theorem params22_yes (n g m : Int) (w : World) (h : PB n g m) : Calls Try.prog 22 #[.int .i64 n, .int .i64 g, .int .i64 m] w fun e w' => e = .returned (.bool true) ∧ w = w' := by
  obtain ⟨h1, h2, h3, h4, h5, h6⟩ := h
  go_enter Try.func22, Try.ntmps22
  go_wp2
  go_ret
  exact ⟨rfl, rfl⟩
theorem params22_no (n g m : Int) (w : World) (h : ¬ PB n g m) : Calls Try.prog 22 #[.int .i64 n, .int .i64 g, .int .i64 m] w fun e w' => e = .returned (.bool false) ∧ w = w' := by
  by_cases h1 : 0 ≤ n
  · by_cases h2 : n ≤ 4096
    · by_cases h3 : 0 ≤ g
      · by_cases h4 : g ≤ 65536
        · by_cases h5 : n ≤ m
          · have h6 : ¬ m ≤ 65536 := fun h6 => h ⟨h1, h2, h3, h4, h5, h6⟩
            clear h
            go_enter Try.func22, Try.ntmps22
            go_wp2
            go_ret
            exact ⟨rfl, rfl⟩
          · clear h
            go_enter Try.func22, Try.ntmps22
            go_wp2
            go_ret
            exact ⟨rfl, rfl⟩
        · clear h
          go_enter Try.func22, Try.ntmps22
          go_wp2
          go_ret
          exact ⟨rfl, rfl⟩
      · clear h
        go_enter Try.func22, Try.ntmps22
        go_wp2
        go_ret
        exact ⟨rfl, rfl⟩
    · clear h
      go_enter Try.func22, Try.ntmps22
      go_wp2
      go_ret
      exact ⟨rfl, rfl⟩
  · clear h
    go_enter Try.func22, Try.ntmps22
    go_wp2
    go_ret
    exact ⟨rfl, rfl⟩

def SomeBool (w : World) (e : Ending) (w' : World) : Prop := ∃ b, e = .returned (.bool b) ∧ w = w'
theorem SomeBool.mk {w : World} (b : Bool) : SomeBool w (.returned (.bool b)) w := ⟨b, rfl, rfl⟩

theorem bytes14_c (n g m : Int) (A1 A2 : Option Addr) (n1 c1 n2 c2 : Nat) (w : World) (m1 : n1 ≤ 9223372036854775807) (m2 : n2 ≤ 9223372036854775807) : Calls Try.prog 14 #[.int .i64 n, .int .i64 g, .int .i64 m, .slice A1 n1 c1, .slice A2 n2 c2] w (SomeBool w) := by
  go_enter Try.func14, Try.ntmps14
  go_wp2
  all_goals (go_ret; exact SomeBool.mk _)

theorem bytes21_c (n g m : Int) (A1 A2 : Option Addr) (n1 c1 n2 c2 : Nat) (w : World) (m1 : n1 ≤ 9223372036854775807) (m2 : n2 ≤ 9223372036854775807) : Calls Try.prog 21 #[.int .i64 n, .int .i64 g, .int .i64 m, .slice A1 n1 c1, .slice A2 n2 c2] w (SomeBool w) := by
  go_enter Try.func21, Try.ntmps21
  go_wp2
  all_goals (go_ret; exact SomeBool.mk _)

theorem bytes33_c (n g m : Int) (A1 A2 : Option Addr) (n1 c1 n2 c2 : Nat) (w : World) (m1 : n1 ≤ 9223372036854775807) (m2 : n2 ≤ 9223372036854775807) : Calls Try.prog 33 #[.int .i64 n, .int .i64 g, .int .i64 m, .slice A1 n1 c1, .slice A2 n2 c2] w (SomeBool w) := by
  go_enter Try.func33, Try.ntmps33
  go_wp2
  all_goals (go_ret; exact SomeBool.mk _)

def ScriptPost (m : Int) (zs : List Int) (w : World) (e : Ending) (w' : World) : Prop := ∃ b, e = .returned (.bool b) ∧ w = w' ∧ (b = true → ∀ z ∈ zs, 0 ≤ z ∧ z < m)

set_option maxRecDepth 100000 in
theorem script15_c (m : Int) (A : Option Addr) (n c : Nat) (zs : List Int) (w : World) (h : Arg w A n c (zs.map (Value.int .i64))) (hn : n ≤ 1048576) : Calls Try.prog 15 #[.int .i64 m, .slice A n c] w (ScriptPost m zs w) := by
  have H := Lib.hid h
  clear h
  go_enter Try.func15, Try.ntmps15
  go_wp2
  go_loopw [5] (fun i wr => ∃ k : Nat, k ≤ n ∧ i = .int .i64 k ∧ Hid (∀ j z, j < k → zs[j]? = some z → 0 ≤ z ∧ z < m) ∧ wr = w) (fun i _ => n - (intOf i).toNat)
  case atStart => exact ⟨0, Nat.zero_le _, rfl, Lib.hid (fun j z h _ => absurd h (by omega)), rfl⟩
  case round =>
    obtain ⟨k, hk, rfl, hall, rfl⟩ := hrel
    by_cases hlt : k < n
    · obtain ⟨z, hz⟩ : ∃ z, zs[k]? = some z := ⟨zs[k]'(by have := H.out.1; rw [List.length_map] at this; omega), List.getElem?_eq_getElem _⟩
      obtain ⟨b, off, rfl, hb, hc⟩ := H.out.2.2.2.2 (by omega)
      have ck : wr.cell? ⟨b, off + k, none⟩ = some (.int .i64 z) := hc k _ (by rw [List.getElem?_map, hz]; rfl)
      have i0 : (0 : Int) ≤ (k : Int) := by omega
      have i1 : (k : Int) < (n : Int) := by omega
      have HZ := Lib.hid hz
      clear hc hz
      by_cases h1 : z < 0
      · go_wp2
        go_ret
        exact ⟨false, rfl, rfl, fun h => by cases h⟩
      · by_cases h2 : m ≤ z
        · go_wp2
          go_ret
          exact ⟨false, rfl, rfl, fun h => by cases h⟩
        · go_wp2
          go_roundw
          case rel => exact ⟨k + 1, by omega, by go_num, Lib.hid (fun j y hj hy => by
            by_cases e : j = k
            · subst e
              rw [HZ.out] at hy
              obtain rfl := Option.some.inj hy
              omega
            · exact hall.out j y (by omega) hy), by first | rfl | trivial⟩
          case measure => simp [intOf]; omega
    · obtain rfl : k = n := by omega
      have hf : Hid (∀ z ∈ zs, 0 ≤ z ∧ z < m) := Lib.hid (fun y hy => by
        obtain ⟨j, hj⟩ := List.mem_iff_getElem?.1 hy
        exact hall.out j y (by have := (List.getElem?_eq_some_iff.1 hj).1; have := H.out.1; rw [List.length_map] at this; omega) hj)
      go_wp2
      go_ret
      exact ⟨true, rfl, rfl, fun _ => hf.out⟩

set_option maxRecDepth 100000 in
theorem script23_c (m : Int) (A : Option Addr) (n c : Nat) (zs : List Int) (w : World) (h : Arg w A n c (zs.map (Value.int .i64))) (hn : n ≤ 1048576) : Calls Try.prog 23 #[.int .i64 m, .slice A n c] w (ScriptPost m zs w) := by
  have H := Lib.hid h
  clear h
  go_enter Try.func23, Try.ntmps23
  go_wp2
  go_loopw [5] (fun i wr => ∃ k : Nat, k ≤ n ∧ i = .int .i64 k ∧ Hid (∀ j z, j < k → zs[j]? = some z → 0 ≤ z ∧ z < m) ∧ wr = w) (fun i _ => n - (intOf i).toNat)
  case atStart => exact ⟨0, Nat.zero_le _, rfl, Lib.hid (fun j z h _ => absurd h (by omega)), rfl⟩
  case round =>
    obtain ⟨k, hk, rfl, hall, rfl⟩ := hrel
    by_cases hlt : k < n
    · obtain ⟨z, hz⟩ : ∃ z, zs[k]? = some z := ⟨zs[k]'(by have := H.out.1; rw [List.length_map] at this; omega), List.getElem?_eq_getElem _⟩
      obtain ⟨b, off, rfl, hb, hc⟩ := H.out.2.2.2.2 (by omega)
      have ck : wr.cell? ⟨b, off + k, none⟩ = some (.int .i64 z) := hc k _ (by rw [List.getElem?_map, hz]; rfl)
      have i0 : (0 : Int) ≤ (k : Int) := by omega
      have i1 : (k : Int) < (n : Int) := by omega
      have HZ := Lib.hid hz
      clear hc hz
      by_cases h1 : z < 0
      · go_wp2
        go_ret
        exact ⟨false, rfl, rfl, fun h => by cases h⟩
      · by_cases h2 : m ≤ z
        · go_wp2
          go_ret
          exact ⟨false, rfl, rfl, fun h => by cases h⟩
        · go_wp2
          go_roundw
          case rel => exact ⟨k + 1, by omega, by go_num, Lib.hid (fun j y hj hy => by
            by_cases e : j = k
            · subst e
              rw [HZ.out] at hy
              obtain rfl := Option.some.inj hy
              omega
            · exact hall.out j y (by omega) hy), by first | rfl | trivial⟩
          case measure => simp [intOf]; omega
    · obtain rfl : k = n := by omega
      have hf : Hid (∀ z ∈ zs, 0 ≤ z ∧ z < m) := Lib.hid (fun y hy => by
        obtain ⟨j, hj⟩ := List.mem_iff_getElem?.1 hy
        exact hall.out j y (by have := (List.getElem?_eq_some_iff.1 hj).1; have := H.out.1; rw [List.length_map] at this; omega) hj)
      go_wp2
      go_ret
      exact ⟨true, rfl, rfl, fun _ => hf.out⟩

theorem pairs18_c (A1 A2 : Option Addr) (n1 c1 n2 c2 : Nat) (w : World) (m1 : n1 ≤ 9223372036854775807) (m2 : n2 ≤ 9223372036854775807) : Calls Try.prog 18 #[.slice A1 n1 c1, .slice A2 n2 c2] w fun e w' => e = .returned (.int .i64 ((min n1 n2 : Nat) : Int)) ∧ w = w' := by
  by_cases h : n2 < n1
  · rw [Nat.min_eq_right (by omega)]
    go_enter Try.func18, Try.ntmps18
    go_wp2
    go_ret
    exact ⟨rfl, rfl⟩
  · rw [Nat.min_eq_left (by omega)]
    go_enter Try.func18, Try.ntmps18
    go_wp2
    go_ret
    exact ⟨rfl, rfl⟩

theorem pairs26_c (A1 A2 : Option Addr) (n1 c1 n2 c2 : Nat) (w : World) (m1 : n1 ≤ 9223372036854775807) (m2 : n2 ≤ 9223372036854775807) : Calls Try.prog 26 #[.slice A1 n1 c1, .slice A2 n2 c2] w fun e w' => e = .returned (.int .i64 ((min n1 n2 : Nat) : Int)) ∧ w = w' := by
  by_cases h : n2 < n1
  · rw [Nat.min_eq_right (by omega)]
    go_enter Try.func26, Try.ntmps26
    go_wp2
    go_ret
    exact ⟨rfl, rfl⟩
  · rw [Nat.min_eq_left (by omega)]
    go_enter Try.func26, Try.ntmps26
    go_wp2
    go_ret
    exact ⟨rfl, rfl⟩

theorem same32_c (a b : Nat) (w : World) (h : SameN a b) : Calls Try.prog 32 #[.float .f64 a, .float .f64 b] w fun e w' => e = .returned (.bool true) ∧ w = w' := by
  obtain h1 | h1 : feq a b = true ∨ feq a b = false := by cases feq a b <;> simp
  · clear h
    unfold feq at h1
    go_enter Try.func32, Try.ntmps32
    go_wp2_with fail
    go_ret
    exact ⟨rfl, rfl⟩
  · rcases h with h | ⟨h2, h3⟩
    · rw [h1] at h; cases h
    · unfold feq at h1 h2 h3
      have n2 : (FloatKind.f64.format.order a a != some .eq) = true := by rw [bne, h2]; rfl
      have n3 : (FloatKind.f64.format.order b b != some .eq) = true := by rw [bne, h3]; rfl
      clear h2 h3
      go_enter Try.func32, Try.ntmps32
      go_wp2_with fail
      go_ret
      exact ⟨rfl, rfl⟩

theorem same34_c (a b : Nat) (w : World) (h : SameN a b) : Calls Try.prog 34 #[.float .f64 a, .float .f64 b] w fun e w' => e = .returned (.bool true) ∧ w = w' := by
  obtain h1 | h1 : feq a b = true ∨ feq a b = false := by cases feq a b <;> simp
  · clear h
    unfold feq at h1
    go_enter Try.func34, Try.ntmps34
    go_wp2_with fail
    go_ret
    exact ⟨rfl, rfl⟩
  · rcases h with h | ⟨h2, h3⟩
    · rw [h1] at h; cases h
    · unfold feq at h1 h2 h3
      have n2 : (FloatKind.f64.format.order a a != some .eq) = true := by rw [bne, h2]; rfl
      have n3 : (FloatKind.f64.format.order b b != some .eq) = true := by rw [bne, h3]; rfl
      clear h2 h3
      go_enter Try.func34, Try.ntmps34
      go_wp2_with fail
      go_ret
      exact ⟨rfl, rfl⟩

theorem rowOf_made (z : Value) (m : Nat) : madeCells #[z] m = rowOf (fun _ => z) m := by
  unfold rowOf
  apply Array.ext_getElem?
  intro j
  by_cases hj : j < m
  · simp [madeCells, hj, Nat.mod_one]
  · simp [madeCells, hj]
def rowB (L : List (Nat × Nat)) (j : Nat) : Value := .bool (lw L j).isSome
def rowM (L : List (Nat × Nat)) (j : Nat) : Value := .float .f64 ((lw L j).getD 0)
theorem rowB_snoc (L : List (Nat × Nat)) (i x : Nat) : upd (rowB L) i (.bool true) = rowB (L ++ [(i, x)]) := by
  funext j
  unfold upd rowB
  rw [lw_snoc]
  by_cases e : j = i <;> simp [e]
theorem rowM_snoc (L : List (Nat × Nat)) (i x : Nat) : upd (rowM L) i (.float .f64 x) = rowM (L ++ [(i, x)]) := by
  funext j
  unfold upd rowM
  rw [lw_snoc]
  by_cases e : j = i <;> simp [e]
theorem info22 : (Try.prog.info? 22).map (fun i => (i.zero, i.size, i.bytes)) = some (some (.float .f64 0), 1, 8) := by kernel_rfl
theorem info4 : (Try.prog.info? 4).map (fun i => (i.zero, i.size, i.bytes)) = some (some (.bool false), 1, 1) := by kernel_rfl
theorem take_snoc_some {α : Type} {L : List α} {k : Nat} {x : α} (h : L[k]? = some x) : L.take (k + 1) = L.take k ++ [x] := by
  rw [List.take_add_one, h]; rfl
/-- The pairs that the two slices give. -/
def Prs (zs : List Int) (fs : List Nat) (m : Nat) (L : List (Nat × Nat)) : Prop := ∀ (k : Nat) (p : Nat × Nat), L[k]? = some p → zs[k]? = some (p.1 : Int) ∧ fs[k]? = some p.2 ∧ p.1 < m
theorem Prs.top {zs : List Int} {fs : List Nat} {m : Nat} {L : List (Nat × Nat)} (h : Prs zs fs m L) : ∀ k, topw (L.take k) ≤ m := by
  intro k
  induction k with
  | zero => exact Nat.zero_le _
  | succ k ih =>
    cases hx : L[k]? with
    | none => rw [List.take_of_length_le (by have : L.length ≤ k := by simpa using hx
                                             omega)] at ih ⊢; exact ih
    | some p =>
      obtain ⟨i, x⟩ := p
      rw [take_snoc_some hx, topw_snoc]
      have := (h k _ hx).2.2
      simp only at this
      omega

set_option maxHeartbeats 1000000 in
set_option maxRecDepth 100000 in
theorem model19_c (m : Nat) (A1 A2 : Option Addr) (n1 c1 n2 c2 n : Nat) (zs : List Int) (fs : List Nat) (L : List (Nat × Nat)) (w : World) (h1 : Arg w A1 n1 c1 (zs.map (Value.int .i64))) (h2 : Arg w A2 n2 c2 (fs.map (Value.float .f64))) (hm : m ≤ 65536) (hn1 : n ≤ n1) (hn2 : n ≤ n2) (hnb : n ≤ 4096) (hL : L.length = n) (hP : Prs zs fs m L) :
    Calls Try.prog 19 #[.int .i64 (m : Int), .slice A1 n1 c1, .slice A2 n2 c2, .int .i64 (n : Int)] w fun e w' => ∃ p q, e = .returned (.tuple #[.int .i64 ((topw L : Nat) : Int), .slice (some ⟨p, 0, none⟩) m m, .slice (some ⟨q, 0, none⟩) m m]) ∧ Blk w' p 4 (rowOf (rowB L) m) ∧ Blk w' q 22 (rowOf (rowM L) m) ∧ Below w.heap.size w w' := by
  have H1 := Lib.hid h1
  have H2 := Lib.hid h2
  have HL := Lib.hid hL
  have HP := Lib.hid hP
  clear h1 h2 hL hP
  have hmk1 := fun W => run_make_row' (P := Try.prog) 31 22 (.float .f64 0) 8 Try.underlying31 info22 rfl .i64 .i64 m (by omega) (by omega) W
  have hmk2 := fun W => run_make_row' (P := Try.prog) 37 4 (.bool false) 1 Try.underlying37 info4 rfl .i64 .i64 m (by omega) (by omega) W
  have e1 := Lib.hid (rowOf_made (.float .f64 0) m)
  have e2 := Lib.hid (rowOf_made (.bool false) m)
  generalize madeCells #[.float .f64 0] m = C1 at *
  generalize madeCells #[.bool false] m = C2 at *
  go_enter Try.func19, Try.ntmps19
  go_wp2_with fail
  have K1 : Hid (Blk ((w.alloc (.cells C1 22)).alloc (.cells C2 4)) w.heap.size 22 (rowOf (rowM (L.take 0)) m)) := Lib.hid (by
    have : rowOf (rowM (L.take 0)) m = C1 := by rw [e1.out]; rfl
    rw [this]
    exact (Blk.new w 22 C1).alloc _)
  have K2 : Hid (Blk ((w.alloc (.cells C1 22)).alloc (.cells C2 4)) (w.heap.size + 1) 4 (rowOf (rowB (L.take 0)) m)) := Lib.hid (by
    have : rowOf (rowB (L.take 0)) m = C2 := by rw [e2.out]; rfl
    rw [this]
    exact Blk.new_at _ _ _ (by simp))
  have B0 : Hid (Below w.heap.size w ((w.alloc (.cells C1 22)).alloc (.cells C2 4))) := ((Below.refl _ _).alloc (Nat.le_refl _) _).alloc (by simp) _
  clear hmk1 hmk2
  generalize (w.alloc (.cells C1 22)).alloc (.cells C2 4) = w1 at *
  generalize hq : w.heap.size = q at *
  have hqq := Lib.hid hq
  clear hq
  generalize hp : q + 1 = p at *
  have hpq : ¬ p = q := by omega
  have hqp : ¬ q = p := by omega
  have hqle : q ≤ p := by omega
  clear hp
  go_loopw [14] (fun i wr => ∃ k : Nat, k ≤ n ∧ i = .int .i64 k ∧ Hid (Blk wr q 22 (rowOf (rowM (L.take k)) m)) ∧ Hid (Blk wr p 4 (rowOf (rowB (L.take k)) m)) ∧ Hid (Below q w wr)) (fun i _ => n - (intOf i).toNat)
  case atStart => exact ⟨0, Nat.zero_le _, rfl, K1.out, K2.out, B0.out⟩
  case round =>
    obtain ⟨k, hk, rfl, hM, hS, hB⟩ := hrel
    have hbel : Hid (Below w.heap.size w wr) := Lib.hid (by rw [hqq.out]; exact hB.out)
    by_cases hlt : k < n
    · obtain ⟨⟨i, x⟩, hx⟩ : ∃ p, L[k]? = some p := ⟨L[k]'(by rw [HL.out]; exact hlt), List.getElem?_eq_getElem _⟩
      obtain ⟨ha, hb, hi⟩ := HP.out k _ hx
      simp only at ha hb hi
      obtain ⟨b1, o1, rfl, hb1, hc1⟩ := H1.out.2.2.2.2 (by omega)
      obtain ⟨b2, o2, rfl, hb2, hc2⟩ := H2.out.2.2.2.2 (by omega)
      have ck1 : wr.cell? ⟨b1, o1 + k, none⟩ = some (.int .i64 (i : Int)) := (hbel.out.cell (p := ⟨b1, o1 + k, none⟩) (by exact hb1)).trans (hc1 k _ (by rw [List.getElem?_map, ha]; rfl))
      have ck2 : wr.cell? ⟨b2, o2 + k, none⟩ = some (.float .f64 x) := (hbel.out.cell (p := ⟨b2, o2 + k, none⟩) (by exact hb2)).trans (hc2 k _ (by rw [List.getElem?_map, hb]; rfl))
      have n1' : ¬ b1 = q := by have := hqq.out; omega
      have n2' : ¬ q = b1 := by have := hqq.out; omega
      have pq0 := (hM.out.cell i).trans (rowOf_at hi)
      have pp0 := (hS.out.cell i).trans (rowOf_at hi)
      have fq0 := hM.out.frozen i
      have fp0 := hS.out.frozen i
      have HM2 := Lib.hid (hM.out.set_ i (.float .f64 x))
      have HS2 := Lib.hid (hS.out.set_ i (.bool true))
      have es := take_snoc_some hx
      have HE := Lib.hid es
      have i0 : (0 : Int) ≤ (k : Int) := by omega
      have i1 : (k : Int) < (n1 : Int) := by omega
      have i2 : (k : Int) < (n2 : Int) := by omega
      have i3 : (0 : Int) ≤ (i : Int) := by omega
      have i4 : (i : Int) < (m : Int) := by omega
      have i5 : (k : Int) < (n : Int) := by omega
      clear ha hb hc1 hc2 hx es
      generalize rowM (L.take k) i = u1 at *
      generalize rowB (L.take k) i = u2 at *
      go_wp2_with fail
      go_still_tail 10, (by kernel_rfl)
      go_wp2_with fail
      go_roundw
      case rel => exact ⟨k + 1, by omega, by go_num, Lib.hid (by rw [HE.out, ← rowM_snoc, ← rowOf_set]; exact Blk.far HM2.out (p := ⟨p, i, none⟩) hqp _), Lib.hid (by
          rw [HE.out, ← rowB_snoc, ← rowOf_set]
          exact (Blk.far hS.out (p := ⟨q, i, none⟩) hpq _).set_ i (.bool true)), Lib.hid ((hB.out.setCell (Nat.le_refl _) _).setCell hqle _).drew⟩
      case measure => simp [intOf]; omega
    · obtain rfl : k = n := by omega
      have hlk : L.take k = L := List.take_of_length_le (by rw [HL.out]; exact Nat.le_refl _)
      rw [hlk] at hM hS
      go_wp2_with fail
      go_loopw [13, 15] (fun t i w' => ∃ j : Nat, j ≤ m ∧ i = .int .i64 j ∧ t = .int .i64 ((tb (fun j => (lw L j).isSome) j : Nat) : Int) ∧ w' = wr) (fun _ i _ => m - (intOf i).toNat)
      case atStart => exact ⟨0, Nat.zero_le _, rfl, rfl, rfl⟩
      case round =>
        obtain ⟨j, hj, rfl, rfl, rfl⟩ := hrel
        by_cases hlt : j < m
        · have pp0 := (hS.out.cell j).trans (rowOf_at hlt)
          have i0 : (0 : Int) ≤ (j : Int) := by omega
          have i4 : (j : Int) < (m : Int) := by omega
          have ht := tb_le (fun j => (lw L j).isSome) j
          obtain hs | hs : (lw L j).isSome = true ∨ (lw L j).isSome = false := by cases (lw L j).isSome <;> simp
          · have HT : Hid (tb (fun j => (lw L j).isSome) (j + 1) = j + 1) := Lib.hid (by rw [tb]; simp [hs])
            unfold rowB at pp0
            rw [hs] at pp0
            clear hs
            go_wp2_with fail
            go_roundw
            case rel => exact ⟨j + 1, by omega, by go_num, by rw [HT.out]; go_num, by first | rfl | trivial⟩
            case measure => simp [intOf]; omega
          · have HT : Hid (tb (fun j => (lw L j).isSome) (j + 1) = tb (fun j => (lw L j).isSome) j) := Lib.hid (by rw [tb]; simp [hs])
            unfold rowB at pp0
            rw [hs] at pp0
            clear hs
            go_wp2_with fail
            go_roundw
            case rel => exact ⟨j + 1, by omega, by go_num, by rw [HT.out], by first | rfl | trivial⟩
            case measure => simp [intOf]; omega
        · have hjm : j = m := by omega
          subst hjm
          have HT := Lib.hid (tb_lw L j (by have := HP.out.top L.length; rwa [List.take_length] at this))
          go_wp2_with fail
          go_ret3
          exact ⟨p, q, by rw [HT.out]; rfl, hS.out, hM.out, by rw [hqq.out]; exact hB.out⟩

set_option maxHeartbeats 1000000 in
set_option maxRecDepth 100000 in
theorem model29_c (m : Nat) (A1 A2 : Option Addr) (n1 c1 n2 c2 n : Nat) (zs : List Int) (fs : List Nat) (L : List (Nat × Nat)) (w : World) (h1 : Arg w A1 n1 c1 (zs.map (Value.int .i64))) (h2 : Arg w A2 n2 c2 (fs.map (Value.float .f64))) (hm : m ≤ 65536) (hn1 : n ≤ n1) (hn2 : n ≤ n2) (hnb : n ≤ 4096) (hL : L.length = n) (hP : Prs zs fs m L) :
    Calls Try.prog 29 #[.int .i64 (m : Int), .slice A1 n1 c1, .slice A2 n2 c2, .int .i64 (n : Int)] w fun e w' => ∃ p q, e = .returned (.tuple #[.int .i64 ((topw L : Nat) : Int), .slice (some ⟨p, 0, none⟩) m m, .slice (some ⟨q, 0, none⟩) m m]) ∧ Blk w' p 4 (rowOf (rowB L) m) ∧ Blk w' q 22 (rowOf (rowM L) m) ∧ Below w.heap.size w w' := by
  have H1 := Lib.hid h1
  have H2 := Lib.hid h2
  have HL := Lib.hid hL
  have HP := Lib.hid hP
  clear h1 h2 hL hP
  have hmk1 := fun W => run_make_row' (P := Try.prog) 31 22 (.float .f64 0) 8 Try.underlying31 info22 rfl .i64 .i64 m (by omega) (by omega) W
  have hmk2 := fun W => run_make_row' (P := Try.prog) 37 4 (.bool false) 1 Try.underlying37 info4 rfl .i64 .i64 m (by omega) (by omega) W
  have e1 := Lib.hid (rowOf_made (.float .f64 0) m)
  have e2 := Lib.hid (rowOf_made (.bool false) m)
  generalize madeCells #[.float .f64 0] m = C1 at *
  generalize madeCells #[.bool false] m = C2 at *
  go_enter Try.func29, Try.ntmps29
  go_wp2_with fail
  have K1 : Hid (Blk ((w.alloc (.cells C1 22)).alloc (.cells C2 4)) w.heap.size 22 (rowOf (rowM (L.take 0)) m)) := Lib.hid (by
    have : rowOf (rowM (L.take 0)) m = C1 := by rw [e1.out]; rfl
    rw [this]
    exact (Blk.new w 22 C1).alloc _)
  have K2 : Hid (Blk ((w.alloc (.cells C1 22)).alloc (.cells C2 4)) (w.heap.size + 1) 4 (rowOf (rowB (L.take 0)) m)) := Lib.hid (by
    have : rowOf (rowB (L.take 0)) m = C2 := by rw [e2.out]; rfl
    rw [this]
    exact Blk.new_at _ _ _ (by simp))
  have B0 : Hid (Below w.heap.size w ((w.alloc (.cells C1 22)).alloc (.cells C2 4))) := ((Below.refl _ _).alloc (Nat.le_refl _) _).alloc (by simp) _
  clear hmk1 hmk2
  generalize (w.alloc (.cells C1 22)).alloc (.cells C2 4) = w1 at *
  generalize hq : w.heap.size = q at *
  have hqq := Lib.hid hq
  clear hq
  generalize hp : q + 1 = p at *
  have hpq : ¬ p = q := by omega
  have hqp : ¬ q = p := by omega
  have hqle : q ≤ p := by omega
  clear hp
  go_loopw [14] (fun i wr => ∃ k : Nat, k ≤ n ∧ i = .int .i64 k ∧ Hid (Blk wr q 22 (rowOf (rowM (L.take k)) m)) ∧ Hid (Blk wr p 4 (rowOf (rowB (L.take k)) m)) ∧ Hid (Below q w wr)) (fun i _ => n - (intOf i).toNat)
  case atStart => exact ⟨0, Nat.zero_le _, rfl, K1.out, K2.out, B0.out⟩
  case round =>
    obtain ⟨k, hk, rfl, hM, hS, hB⟩ := hrel
    have hbel : Hid (Below w.heap.size w wr) := Lib.hid (by rw [hqq.out]; exact hB.out)
    by_cases hlt : k < n
    · obtain ⟨⟨i, x⟩, hx⟩ : ∃ p, L[k]? = some p := ⟨L[k]'(by rw [HL.out]; exact hlt), List.getElem?_eq_getElem _⟩
      obtain ⟨ha, hb, hi⟩ := HP.out k _ hx
      simp only at ha hb hi
      obtain ⟨b1, o1, rfl, hb1, hc1⟩ := H1.out.2.2.2.2 (by omega)
      obtain ⟨b2, o2, rfl, hb2, hc2⟩ := H2.out.2.2.2.2 (by omega)
      have ck1 : wr.cell? ⟨b1, o1 + k, none⟩ = some (.int .i64 (i : Int)) := (hbel.out.cell (p := ⟨b1, o1 + k, none⟩) (by exact hb1)).trans (hc1 k _ (by rw [List.getElem?_map, ha]; rfl))
      have ck2 : wr.cell? ⟨b2, o2 + k, none⟩ = some (.float .f64 x) := (hbel.out.cell (p := ⟨b2, o2 + k, none⟩) (by exact hb2)).trans (hc2 k _ (by rw [List.getElem?_map, hb]; rfl))
      have n1' : ¬ b1 = q := by have := hqq.out; omega
      have n2' : ¬ q = b1 := by have := hqq.out; omega
      have pq0 := (hM.out.cell i).trans (rowOf_at hi)
      have pp0 := (hS.out.cell i).trans (rowOf_at hi)
      have fq0 := hM.out.frozen i
      have fp0 := hS.out.frozen i
      have HM2 := Lib.hid (hM.out.set_ i (.float .f64 x))
      have HS2 := Lib.hid (hS.out.set_ i (.bool true))
      have es := take_snoc_some hx
      have HE := Lib.hid es
      have i0 : (0 : Int) ≤ (k : Int) := by omega
      have i1 : (k : Int) < (n1 : Int) := by omega
      have i2 : (k : Int) < (n2 : Int) := by omega
      have i3 : (0 : Int) ≤ (i : Int) := by omega
      have i4 : (i : Int) < (m : Int) := by omega
      have i5 : (k : Int) < (n : Int) := by omega
      clear ha hb hc1 hc2 hx es
      generalize rowM (L.take k) i = u1 at *
      generalize rowB (L.take k) i = u2 at *
      go_wp2_with fail
      go_still_tail 10, (by kernel_rfl)
      go_wp2_with fail
      go_roundw
      case rel => exact ⟨k + 1, by omega, by go_num, Lib.hid (by rw [HE.out, ← rowM_snoc, ← rowOf_set]; exact Blk.far HM2.out (p := ⟨p, i, none⟩) hqp _), Lib.hid (by
          rw [HE.out, ← rowB_snoc, ← rowOf_set]
          exact (Blk.far hS.out (p := ⟨q, i, none⟩) hpq _).set_ i (.bool true)), Lib.hid ((hB.out.setCell (Nat.le_refl _) _).setCell hqle _).drew⟩
      case measure => simp [intOf]; omega
    · obtain rfl : k = n := by omega
      have hlk : L.take k = L := List.take_of_length_le (by rw [HL.out]; exact Nat.le_refl _)
      rw [hlk] at hM hS
      go_wp2_with fail
      go_loopw [13, 15] (fun t i w' => ∃ j : Nat, j ≤ m ∧ i = .int .i64 j ∧ t = .int .i64 ((tb (fun j => (lw L j).isSome) j : Nat) : Int) ∧ w' = wr) (fun _ i _ => m - (intOf i).toNat)
      case atStart => exact ⟨0, Nat.zero_le _, rfl, rfl, rfl⟩
      case round =>
        obtain ⟨j, hj, rfl, rfl, rfl⟩ := hrel
        by_cases hlt : j < m
        · have pp0 := (hS.out.cell j).trans (rowOf_at hlt)
          have i0 : (0 : Int) ≤ (j : Int) := by omega
          have i4 : (j : Int) < (m : Int) := by omega
          have ht := tb_le (fun j => (lw L j).isSome) j
          obtain hs | hs : (lw L j).isSome = true ∨ (lw L j).isSome = false := by cases (lw L j).isSome <;> simp
          · have HT : Hid (tb (fun j => (lw L j).isSome) (j + 1) = j + 1) := Lib.hid (by rw [tb]; simp [hs])
            unfold rowB at pp0
            rw [hs] at pp0
            clear hs
            go_wp2_with fail
            go_roundw
            case rel => exact ⟨j + 1, by omega, by go_num, by rw [HT.out]; go_num, by first | rfl | trivial⟩
            case measure => simp [intOf]; omega
          · have HT : Hid (tb (fun j => (lw L j).isSome) (j + 1) = tb (fun j => (lw L j).isSome) j) := Lib.hid (by rw [tb]; simp [hs])
            unfold rowB at pp0
            rw [hs] at pp0
            clear hs
            go_wp2_with fail
            go_roundw
            case rel => exact ⟨j + 1, by omega, by go_num, by rw [HT.out], by first | rfl | trivial⟩
            case measure => simp [intOf]; omega
        · have hjm : j = m := by omega
          subst hjm
          have HT := Lib.hid (tb_lw L j (by have := HP.out.top L.length; rwa [List.take_length] at this))
          go_wp2_with fail
          go_ret3
          exact ⟨p, q, by rw [HT.out]; rfl, hS.out, hM.out, by rw [hqq.out]; exact hB.out⟩

/-- A slot agrees with the model. -/
def Agree20 (v : Value) (s : Bool) (x : Nat) : Prop := (s = true ∧ ∃ y, v = .iface 59 (.float .f64 y) ∧ SameN y x) ∨ (s = false ∧ v = .nilIface)
set_option maxHeartbeats 1000000 in
set_option maxRecDepth 100000 in
theorem match20_c (w : World) (f g C top gb mx : Nat) (al : Value) (sl : Nat → Value) (p q m : Nat) (L : List (Nat × Nat)) (h : Rg w f g C top gb mx al sl) (hp : Blk w p 4 (rowOf (rowB L) m)) (hq : Blk w q 22 (rowOf (rowM L) m)) (htm : top ≤ m)
    (ha : ∀ j, j < top → Agree20 (sl j) (lw L j).isSome ((lw L j).getD 0)) : Calls Try.prog 20 #[.pointer (some ⟨f, 0, none⟩), .int .i64 (top : Int), .slice (some ⟨p, 0, none⟩) m m, .slice (some ⟨q, 0, none⟩) m m] w fun e w' => e = .returned (.bool true) ∧ w = w' := by
  have H := Lib.hid h
  have HA := Lib.hid ha
  have HPB := Lib.hid hp
  have HQB := Lib.hid hq
  obtain ⟨l1, l2, l3, l4⟩ := h.le
  clear h ha hp hq
  have e1 : ((top : Int) == (top : Int)) = true := by simp
  go_enter Try.func20, Try.ntmps20
  go_wp2_with fail
  refine (top_c w f g C top gb mx al sl H.out).mono ?_; rintro e w' ⟨rfl, rfl⟩
  go_wp2_with fail
  clear e1
  go_loopw [9] (fun i wr => ∃ j : Nat, j ≤ top ∧ i = .int .i64 j ∧ wr = w) (fun i _ => top - (intOf i).toNat)
  case atStart => exact ⟨0, Nat.zero_le _, rfl, rfl⟩
  case round =>
    obtain ⟨j, hj, rfl, rfl⟩ := hrel
    by_cases hlt : j < top
    · have pp0 := (HPB.out.cell j).trans (rowOf_at (by omega))
      have qq0 := (HQB.out.cell j).trans (rowOf_at (by omega))
      have i0 : (0 : Int) ≤ (j : Int) := by omega
      have i4 : (j : Int) < (m : Int) := by omega
      have i5 : (j : Int) < (top : Int) := by omega
      unfold rowB at pp0
      unfold rowM at qq0
      rcases HA.out j hlt with ⟨hs, y, hv, hsame⟩ | ⟨hs, hv⟩
      · rw [hs] at pp0
        have SL := Lib.hid (slot_c wr f g C top gb mx al sl j 1 y H.out (by omega) (.inr ⟨hv, rfl⟩))
        have SM := Lib.hid hsame
        clear hs hv hsame
        go_wp2_with fail
        refine SL.out.mono ?_; rintro e w' ⟨rfl, rfl⟩
        go_wp2_with fail
        refine (same32_c y _ _ SM.out).mono ?_; rintro e w' ⟨rfl, rfl⟩
        go_wp2_with fail
        go_roundw
        case rel => exact ⟨j + 1, by omega, by go_num, by first | rfl | trivial⟩
        case measure => simp [intOf]; omega
      · rw [hs] at pp0
        have SL := Lib.hid (slot_c wr f g C top gb mx al sl j 0 0 H.out (by omega) (.inl ⟨hv, rfl, rfl⟩))
        clear hs hv
        go_wp2_with fail
        refine SL.out.mono ?_; rintro e w' ⟨rfl, rfl⟩
        go_wp2_with fail
        go_roundw
        case rel => exact ⟨j + 1, by omega, by go_num, by first | rfl | trivial⟩
        case measure => simp [intOf]; omega
    · have hjt : j = top := by omega
      subst hjt
      go_wp2_with fail
      go_ret
      exact ⟨rfl, rfl⟩

/-- A slot agrees with the model. -/
def Agree30 (v : Value) (s : Bool) (x : Nat) : Prop := (s = true ∧ ∃ y, v = .iface 59 (.float .f64 y) ∧ SameN y x) ∨ (s = false ∧ v = .nilIface)
set_option maxHeartbeats 1000000 in
set_option maxRecDepth 100000 in
theorem match30_c (w : World) (f g C top gb mx : Nat) (al : Value) (sl : Nat → Value) (p q m : Nat) (L : List (Nat × Nat)) (h : Rg w f g C top gb mx al sl) (hp : Blk w p 4 (rowOf (rowB L) m)) (hq : Blk w q 22 (rowOf (rowM L) m)) (htm : top ≤ m)
    (ha : ∀ j, j < top → Agree30 (sl j) (lw L j).isSome ((lw L j).getD 0)) : Calls Try.prog 30 #[.pointer (some ⟨f, 0, none⟩), .int .i64 (top : Int), .slice (some ⟨p, 0, none⟩) m m, .slice (some ⟨q, 0, none⟩) m m] w fun e w' => e = .returned (.bool true) ∧ w = w' := by
  have H := Lib.hid h
  have HA := Lib.hid ha
  have HPB := Lib.hid hp
  have HQB := Lib.hid hq
  obtain ⟨l1, l2, l3, l4⟩ := h.le
  clear h ha hp hq
  have e1 : ((top : Int) == (top : Int)) = true := by simp
  go_enter Try.func30, Try.ntmps30
  go_wp2_with fail
  refine (top_c w f g C top gb mx al sl H.out).mono ?_; rintro e w' ⟨rfl, rfl⟩
  go_wp2_with fail
  clear e1
  go_loopw [9] (fun i wr => ∃ j : Nat, j ≤ top ∧ i = .int .i64 j ∧ wr = w) (fun i _ => top - (intOf i).toNat)
  case atStart => exact ⟨0, Nat.zero_le _, rfl, rfl⟩
  case round =>
    obtain ⟨j, hj, rfl, rfl⟩ := hrel
    by_cases hlt : j < top
    · have pp0 := (HPB.out.cell j).trans (rowOf_at (by omega))
      have qq0 := (HQB.out.cell j).trans (rowOf_at (by omega))
      have i0 : (0 : Int) ≤ (j : Int) := by omega
      have i4 : (j : Int) < (m : Int) := by omega
      have i5 : (j : Int) < (top : Int) := by omega
      unfold rowB at pp0
      unfold rowM at qq0
      rcases HA.out j hlt with ⟨hs, y, hv, hsame⟩ | ⟨hs, hv⟩
      · rw [hs] at pp0
        have SL := Lib.hid (slot_c wr f g C top gb mx al sl j 1 y H.out (by omega) (.inr ⟨hv, rfl⟩))
        have SM := Lib.hid hsame
        clear hs hv hsame
        go_wp2_with fail
        refine SL.out.mono ?_; rintro e w' ⟨rfl, rfl⟩
        go_wp2_with fail
        refine (same34_c y _ _ SM.out).mono ?_; rintro e w' ⟨rfl, rfl⟩
        go_wp2_with fail
        go_roundw
        case rel => exact ⟨j + 1, by omega, by go_num, by first | rfl | trivial⟩
        case measure => simp [intOf]; omega
      · rw [hs] at pp0
        have SL := Lib.hid (slot_c wr f g C top gb mx al sl j 0 0 H.out (by omega) (.inl ⟨hv, rfl, rfl⟩))
        clear hs hv
        go_wp2_with fail
        refine SL.out.mono ?_; rintro e w' ⟨rfl, rfl⟩
        go_wp2_with fail
        go_roundw
        case rel => exact ⟨j + 1, by omega, by go_num, by first | rfl | trivial⟩
        case measure => simp [intOf]; omega
    · have hjt : j = top := by omega
      subst hjt
      go_wp2_with fail
      go_ret
      exact ⟨rfl, rfl⟩
end Go.Proofs.Ytddmpdiidnamkaa
