/-
  The walks through the laws on the setters of a code store.
-/
import Derived.Test.YtejkildapkilfaaSets
namespace Go.Proofs.Ytejkildapkilfaa
open Go.RowKit
set_option linter.unusedVariables false
set_option maxHeartbeats 400000

theorem law_setB (A : Option Addr) (n c : Nat) (zs : List Int) (pc v : Int) (w : World) (hA : Arg w A n c (zs.map (Value.int .u32))) (hz : ∀ x ∈ zs, 0 ≤ x ∧ x ≤ 4294967295)
    (hp : -9223372036854775808 ≤ pc ∧ pc ≤ 9223372036854775807) (hvv : -9223372036854775808 ≤ v ∧ v ≤ 9223372036854775807) :
    Calls Try.prog 6 #[.slice A n c, .int .i64 pc, .int .i64 v] w fun e w' => e = .returned (.bool true) ∧ Below w.heap.size w w' := by
  have hmax : n ≤ 9223372036854775807 := by have h1 := hA.2.1; have h2 := hA.2.2.1; unfold maxLen at h2; omega
  have HA := Lib.hid hA
  have HZ := Lib.hid hz
  clear hA hz hp hvv
  by_cases h1 : n ≤ 65536
  · rcases (show pc < 0 ∨ (n : Int) ≤ pc ∨ (0 ≤ pc ∧ pc < n) by omega) with h2 | h2 | ⟨p0, p1⟩
    · go_enter Try.func6, Try.ntmps6
      go_wp2
      go_ret
      exact ⟨rfl, Below.refl _ _⟩
    · go_enter Try.func6, Try.ntmps6
      go_wp2
      go_ret
      exact ⟨rfl, Below.refl _ _⟩
    · obtain ⟨p, rfl⟩ := Int.eq_ofNat_of_zero_le p0
      have hp : p < n := by omega
      have hl : zs.length = n := by simpa using HA.out.1
      obtain ⟨x, hx⟩ : ∃ x, zs[p]? = some x := ⟨zs[p]'(by omega), List.getElem?_eq_getElem _⟩
      obtain ⟨x0, x1⟩ := HZ.out x (List.mem_of_getElem? hx)
      have hcx := rowI_get (k := .u32) hx
      have hps : p < (rowI .u32 zs).size := by rw [rowI_size, hl]; exact hp
      have HL := Lib.hid hl
      have HX := Lib.hid hx
      have HPS := Lib.hid hps
      clear hl hx hps
      go_enter Try.func6, Try.ntmps6
      go_wp2_with (go_at_call 21; go_in)
      refine (clone_c A n c zs _ HA.out (by omega) h1).mono ?_; rintro e w1 ⟨rfl, rfl⟩
      go_wp2_with fail
      refine (clone_c _ n n zs _ ?_ (by omega) h1).mono ?_
      · rw [← rowI_list]; exact arg_block (heap_alloc_new w _) (by rw [rowI_size, HL.out]) (by unfold maxLen; omega)
      rintro e w1 ⟨rfl, rfl⟩
      go_wp2_with (go_at_call 16; go_in)
      refine (setB_c (w.heap.size + 1 + 1) (w.heap.size) p n n (x) v x0 x1 _ ?_ hp ?_ ?_).mono ?_
      · go_simp
      · first | (go_simp; done) | (have hps := HPS.out; clear hcx; go_simp; done)
      · go_simp
      rintro e w1 ⟨rfl, rfl⟩
      go_wp2_with fail
      go_quiet ((go_at_call 22; exact quiet_left (modNonNeg_512 _ _)))
      go_wp2_with fail
      refine (at_c (w.heap.size + 1 + 1) w.heap.size p n n (x / 512 * 512 + v % 512) _ ?_ hp ?_).mono ?_
      · go_simp
      · first | (go_simp; done) | (have hps := HPS.out; clear hcx; go_simp; done)
      rintro e w1 ⟨rfl, rfl⟩
      go_wp2_with fail
      refine (othersSame_c w.heap.size (w.heap.size + 1) n p (fun i => if i = p then (x / 512 * 512 + v % 512) else zs.getD i 0) (fun i => zs.getD i 0) _ h1 ?_ ?_ ?_).mono ?_
      · intro i hi
        have hX := rowI_setD .u32 zs p i (x / 512 * 512 + v % 512) (by rw [HL.out]; exact hi)
        go_simp
      · intro i hi
        have hX := rowI_getD .u32 zs i (by rw [HL.out]; exact hi)
        go_simp
      · intro i hi hne
        have hne' : ¬ i = p := fun h => hne (by rw [h])
        simp [hne']
      rintro e w1 ⟨rfl, q, rfl⟩
      go_wp2_with fail
      go_ret
      exact ⟨rfl, by repeat (first | exact Below.refl _ _ | refine below_drewN ?_ _ | refine Below.alloc ?_ (by simp <;> omega) _ | refine Below.setCell ?_ (by simp <;> omega) _)⟩
  · by_cases h2 : n ≤ 1048576
    · go_enter Try.func6, Try.ntmps6
      go_wp2
      go_ret
      exact ⟨rfl, Below.refl _ _⟩
    · go_enter Try.func6, Try.ntmps6
      go_wp2
      go_ret
      exact ⟨rfl, Below.refl _ _⟩

theorem law_setC (A : Option Addr) (n c : Nat) (zs : List Int) (pc v : Int) (w : World) (hA : Arg w A n c (zs.map (Value.int .u32))) (hz : ∀ x ∈ zs, 0 ≤ x ∧ x ≤ 4294967295)
    (hp : -9223372036854775808 ≤ pc ∧ pc ≤ 9223372036854775807) (hvv : -9223372036854775808 ≤ v ∧ v ≤ 9223372036854775807) :
    Calls Try.prog 9 #[.slice A n c, .int .i64 pc, .int .i64 v] w fun e w' => e = .returned (.bool true) ∧ Below w.heap.size w w' := by
  have hmax : n ≤ 9223372036854775807 := by have h1 := hA.2.1; have h2 := hA.2.2.1; unfold maxLen at h2; omega
  have HA := Lib.hid hA
  have HZ := Lib.hid hz
  clear hA hz hp hvv
  by_cases h1 : n ≤ 65536
  · rcases (show pc < 0 ∨ (n : Int) ≤ pc ∨ (0 ≤ pc ∧ pc < n) by omega) with h2 | h2 | ⟨p0, p1⟩
    · go_enter Try.func9, Try.ntmps9
      go_wp2
      go_ret
      exact ⟨rfl, Below.refl _ _⟩
    · go_enter Try.func9, Try.ntmps9
      go_wp2
      go_ret
      exact ⟨rfl, Below.refl _ _⟩
    · obtain ⟨p, rfl⟩ := Int.eq_ofNat_of_zero_le p0
      have hp : p < n := by omega
      have hl : zs.length = n := by simpa using HA.out.1
      obtain ⟨x, hx⟩ : ∃ x, zs[p]? = some x := ⟨zs[p]'(by omega), List.getElem?_eq_getElem _⟩
      obtain ⟨x0, x1⟩ := HZ.out x (List.mem_of_getElem? hx)
      have hcx := rowI_get (k := .u32) hx
      have hps : p < (rowI .u32 zs).size := by rw [rowI_size, hl]; exact hp
      have HL := Lib.hid hl
      have HX := Lib.hid hx
      have HPS := Lib.hid hps
      clear hl hx hps
      go_enter Try.func9, Try.ntmps9
      go_wp2_with (go_at_call 27; go_in)
      refine (clone_c A n c zs _ HA.out (by omega) h1).mono ?_; rintro e w1 ⟨rfl, rfl⟩
      go_wp2_with fail
      refine (clone_c _ n n zs _ ?_ (by omega) h1).mono ?_
      · rw [← rowI_list]; exact arg_block (heap_alloc_new w _) (by rw [rowI_size, HL.out]) (by unfold maxLen; omega)
      rintro e w1 ⟨rfl, rfl⟩
      go_wp2_with (go_at_call 16; go_in)
      refine (setC_c (w.heap.size + 1 + 1) (w.heap.size) p n n (x) v x0 x1 _ ?_ hp ?_ ?_).mono ?_
      · go_simp
      · first | (go_simp; done) | (have hps := HPS.out; clear hcx; go_simp; done)
      · go_simp
      rintro e w1 ⟨rfl, rfl⟩
      go_wp2_with fail
      refine (modNonNeg_512 _ _).mono ?_; rintro e w1 ⟨rfl, rfl⟩
      go_wp2_with fail
      refine (at_c (w.heap.size + 1 + 1) w.heap.size p n n (x / 262144 * 262144 + v % 512 * 512 + x % 512) _ ?_ hp ?_).mono ?_
      · go_simp
      · first | (go_simp; done) | (have hps := HPS.out; clear hcx; go_simp; done)
      rintro e w1 ⟨rfl, rfl⟩
      go_wp2_with fail
      refine (othersSame_c w.heap.size (w.heap.size + 1) n p (fun i => if i = p then (x / 262144 * 262144 + v % 512 * 512 + x % 512) else zs.getD i 0) (fun i => zs.getD i 0) _ h1 ?_ ?_ ?_).mono ?_
      · intro i hi
        have hX := rowI_setD .u32 zs p i (x / 262144 * 262144 + v % 512 * 512 + x % 512) (by rw [HL.out]; exact hi)
        go_simp
      · intro i hi
        have hX := rowI_getD .u32 zs i (by rw [HL.out]; exact hi)
        go_simp
      · intro i hi hne
        have hne' : ¬ i = p := fun h => hne (by rw [h])
        simp [hne']
      rintro e w1 ⟨rfl, q, rfl⟩
      go_wp2_with fail
      go_ret
      exact ⟨rfl, by repeat (first | exact Below.refl _ _ | refine below_drewN ?_ _ | refine Below.alloc ?_ (by simp <;> omega) _ | refine Below.setCell ?_ (by simp <;> omega) _)⟩
  · by_cases h2 : n ≤ 1048576
    · go_enter Try.func9, Try.ntmps9
      go_wp2
      go_ret
      exact ⟨rfl, Below.refl _ _⟩
    · go_enter Try.func9, Try.ntmps9
      go_wp2
      go_ret
      exact ⟨rfl, Below.refl _ _⟩

theorem law_setBx (A : Option Addr) (n c : Nat) (zs : List Int) (pc v : Int) (w : World) (hA : Arg w A n c (zs.map (Value.int .u32))) (hz : ∀ x ∈ zs, 0 ≤ x ∧ x ≤ 4294967295)
    (hp : -9223372036854775808 ≤ pc ∧ pc ≤ 9223372036854775807) (hvv : -9223372036854775808 ≤ v ∧ v ≤ 9223372036854775807) :
    Calls Try.prog 7 #[.slice A n c, .int .i64 pc, .int .i64 v] w fun e w' => e = .returned (.bool true) ∧ Below w.heap.size w w' := by
  have hmax : n ≤ 9223372036854775807 := by have h1 := hA.2.1; have h2 := hA.2.2.1; unfold maxLen at h2; omega
  have HA := Lib.hid hA
  have HZ := Lib.hid hz
  clear hA hz hp hvv
  by_cases h1 : n ≤ 65536
  · rcases (show pc < 0 ∨ (n : Int) ≤ pc ∨ (0 ≤ pc ∧ pc < n) by omega) with h2 | h2 | ⟨p0, p1⟩
    · go_enter Try.func7, Try.ntmps7
      go_wp2
      go_ret
      exact ⟨rfl, Below.refl _ _⟩
    · go_enter Try.func7, Try.ntmps7
      go_wp2
      go_ret
      exact ⟨rfl, Below.refl _ _⟩
    · obtain ⟨p, rfl⟩ := Int.eq_ofNat_of_zero_le p0
      have hp : p < n := by omega
      have hl : zs.length = n := by simpa using HA.out.1
      obtain ⟨x, hx⟩ : ∃ x, zs[p]? = some x := ⟨zs[p]'(by omega), List.getElem?_eq_getElem _⟩
      obtain ⟨x0, x1⟩ := HZ.out x (List.mem_of_getElem? hx)
      have hcx := rowI_get (k := .u32) hx
      have hps : p < (rowI .u32 zs).size := by rw [rowI_size, hl]; exact hp
      have HL := Lib.hid hl
      have HX := Lib.hid hx
      have HPS := Lib.hid hps
      clear hl hx hps
      go_enter Try.func7, Try.ntmps7
      go_wp2_with (go_at_call 25; go_in)
      refine (clone_c A n c zs _ HA.out (by omega) h1).mono ?_; rintro e w1 ⟨rfl, rfl⟩
      go_wp2_with fail
      refine (clone_c _ n n zs _ ?_ (by omega) h1).mono ?_
      · rw [← rowI_list]; exact arg_block (heap_alloc_new w _) (by rw [rowI_size, HL.out]) (by unfold maxLen; omega)
      rintro e w1 ⟨rfl, rfl⟩
      go_wp2_with (go_at_call 16; go_in)
      refine (setBx_c (w.heap.size + 1 + 1) (w.heap.size) p n n (x) v x0 x1 _ ?_ hp ?_ ?_).mono ?_
      · go_simp
      · first | (go_simp; done) | (have hps := HPS.out; clear hcx; go_simp; done)
      · go_simp
      rintro e w1 ⟨rfl, rfl⟩
      go_wp2_with fail
      go_quiet ((go_at_call 22; exact quiet_left (modNonNeg_262144 _ _)))
      go_wp2_with fail
      refine (at_c (w.heap.size + 1 + 1) w.heap.size p n n (x / 262144 * 262144 + v % 262144) _ ?_ hp ?_).mono ?_
      · go_simp
      · first | (go_simp; done) | (have hps := HPS.out; clear hcx; go_simp; done)
      rintro e w1 ⟨rfl, rfl⟩
      go_wp2_with fail
      refine (othersSame_c w.heap.size (w.heap.size + 1) n p (fun i => if i = p then (x / 262144 * 262144 + v % 262144) else zs.getD i 0) (fun i => zs.getD i 0) _ h1 ?_ ?_ ?_).mono ?_
      · intro i hi
        have hX := rowI_setD .u32 zs p i (x / 262144 * 262144 + v % 262144) (by rw [HL.out]; exact hi)
        go_simp
      · intro i hi
        have hX := rowI_getD .u32 zs i (by rw [HL.out]; exact hi)
        go_simp
      · intro i hi hne
        have hne' : ¬ i = p := fun h => hne (by rw [h])
        simp [hne']
      rintro e w1 ⟨rfl, q, rfl⟩
      go_wp2_with fail
      go_ret
      exact ⟨rfl, by repeat (first | exact Below.refl _ _ | refine below_drewN ?_ _ | refine Below.alloc ?_ (by simp <;> omega) _ | refine Below.setCell ?_ (by simp <;> omega) _)⟩
  · by_cases h2 : n ≤ 1048576
    · go_enter Try.func7, Try.ntmps7
      go_wp2
      go_ret
      exact ⟨rfl, Below.refl _ _⟩
    · go_enter Try.func7, Try.ntmps7
      go_wp2
      go_ret
      exact ⟨rfl, Below.refl _ _⟩

theorem law_setSbx (A : Option Addr) (n c : Nat) (zs : List Int) (pc v : Int) (w : World) (hA : Arg w A n c (zs.map (Value.int .u32))) (hz : ∀ x ∈ zs, 0 ≤ x ∧ x ≤ 4294967295)
    (hp : -9223372036854775808 ≤ pc ∧ pc ≤ 9223372036854775807) (hvv : -9223372036854775808 ≤ v ∧ v ≤ 9223372036854775807) :
    Calls Try.prog 10 #[.slice A n c, .int .i64 pc, .int .i64 v] w fun e w' => e = .returned (.bool true) ∧ Below w.heap.size w w' := by
  have hmax : n ≤ 9223372036854775807 := by have h1 := hA.2.1; have h2 := hA.2.2.1; unfold maxLen at h2; omega
  have HA := Lib.hid hA
  have HZ := Lib.hid hz
  clear hA hz hp hvv
  by_cases h1 : n ≤ 65536
  · rcases (show pc < 0 ∨ (n : Int) ≤ pc ∨ (0 ≤ pc ∧ pc < n) by omega) with h2 | h2 | ⟨p0, p1⟩
    · go_enter Try.func10, Try.ntmps10
      go_wp2
      go_ret
      exact ⟨rfl, Below.refl _ _⟩
    · go_enter Try.func10, Try.ntmps10
      go_wp2
      go_ret
      exact ⟨rfl, Below.refl _ _⟩
    · obtain ⟨p, rfl⟩ := Int.eq_ofNat_of_zero_le p0
      have hp : p < n := by omega
      have hl : zs.length = n := by simpa using HA.out.1
      obtain ⟨x, hx⟩ : ∃ x, zs[p]? = some x := ⟨zs[p]'(by omega), List.getElem?_eq_getElem _⟩
      obtain ⟨x0, x1⟩ := HZ.out x (List.mem_of_getElem? hx)
      have hcx := rowI_get (k := .u32) hx
      have hps : p < (rowI .u32 zs).size := by rw [rowI_size, hl]; exact hp
      have HL := Lib.hid hl
      have HX := Lib.hid hx
      have HPS := Lib.hid hps
      clear hl hx hps
      go_enter Try.func10, Try.ntmps10
      go_wp2_with (go_at_call 28; go_in)
      refine (clone_c A n c zs _ HA.out (by omega) h1).mono ?_; rintro e w1 ⟨rfl, rfl⟩
      go_wp2_with fail
      refine (clone_c _ n n zs _ ?_ (by omega) h1).mono ?_
      · rw [← rowI_list]; exact arg_block (heap_alloc_new w _) (by rw [rowI_size, HL.out]) (by unfold maxLen; omega)
      rintro e w1 ⟨rfl, rfl⟩
      go_wp2_with (go_at_call 16; go_in)
      refine (setSbx_c (w.heap.size + 1 + 1) (w.heap.size) p n n (x) v x0 x1 _ ?_ hp ?_ ?_).mono ?_
      · go_simp
      · first | (go_simp; done) | (have hps := HPS.out; clear hcx; go_simp; done)
      · go_simp
      rintro e w1 ⟨rfl, rfl⟩
      go_wp2_with fail
      refine (modNonNeg_262144 _ _).mono ?_; rintro e w1 ⟨rfl, rfl⟩
      go_wp2_with fail
      refine (modNonNeg_262144 _ _).mono ?_; rintro e w1 ⟨rfl, rfl⟩
      go_wp2_with fail
      refine (at_c (w.heap.size + 1 + 1) w.heap.size p n n (x / 262144 * 262144 + (v + 131071) % 262144) _ ?_ hp ?_).mono ?_
      · go_simp
      · first | (go_simp; done) | (have hps := HPS.out; clear hcx; go_simp; done)
      rintro e w1 ⟨rfl, rfl⟩
      go_wp2_with fail
      refine (othersSame_c w.heap.size (w.heap.size + 1) n p (fun i => if i = p then (x / 262144 * 262144 + (v + 131071) % 262144) else zs.getD i 0) (fun i => zs.getD i 0) _ h1 ?_ ?_ ?_).mono ?_
      · intro i hi
        have hX := rowI_setD .u32 zs p i (x / 262144 * 262144 + (v + 131071) % 262144) (by rw [HL.out]; exact hi)
        go_simp
      · intro i hi
        have hX := rowI_getD .u32 zs i (by rw [HL.out]; exact hi)
        go_simp
      · intro i hi hne
        have hne' : ¬ i = p := fun h => hne (by rw [h])
        simp [hne']
      rintro e w1 ⟨rfl, q, rfl⟩
      go_wp2_with fail
      go_ret
      exact ⟨rfl, by repeat (first | exact Below.refl _ _ | refine below_drewN ?_ _ | refine Below.alloc ?_ (by simp <;> omega) _ | refine Below.setCell ?_ (by simp <;> omega) _)⟩
  · by_cases h2 : n ≤ 1048576
    · go_enter Try.func10, Try.ntmps10
      go_wp2
      go_ret
      exact ⟨rfl, Below.refl _ _⟩
    · go_enter Try.func10, Try.ntmps10
      go_wp2
      go_ret
      exact ⟨rfl, Below.refl _ _⟩

theorem law_setBx_is (A : Option Addr) (n c : Nat) (zs : List Int) (pc v : Int) (w : World) (hA : Arg w A n c (zs.map (Value.int .u32))) (hz : ∀ x ∈ zs, 0 ≤ x ∧ x ≤ 4294967295)
    (hp : -9223372036854775808 ≤ pc ∧ pc ≤ 9223372036854775807) (hvv : -9223372036854775808 ≤ v ∧ v ≤ 9223372036854775807) :
    Calls Try.prog 5 #[.slice A n c, .int .i64 pc, .int .i64 v] w fun e w' => e = .returned (.bool true) ∧ Below w.heap.size w w' := by
  have hmax : n ≤ 9223372036854775807 := by have h1 := hA.2.1; have h2 := hA.2.2.1; unfold maxLen at h2; omega
  have HA := Lib.hid hA
  have HZ := Lib.hid hz
  clear hA hz hp hvv
  by_cases h1 : n ≤ 65536
  · rcases (show pc < 0 ∨ (n : Int) ≤ pc ∨ (0 ≤ pc ∧ pc < n) by omega) with h2 | h2 | ⟨p0, p1⟩
    · go_enter Try.func5, Try.ntmps5
      go_wp2
      go_ret
      exact ⟨rfl, Below.refl _ _⟩
    · go_enter Try.func5, Try.ntmps5
      go_wp2
      go_ret
      exact ⟨rfl, Below.refl _ _⟩
    · obtain ⟨p, rfl⟩ := Int.eq_ofNat_of_zero_le p0
      have hp : p < n := by omega
      have hl : zs.length = n := by simpa using HA.out.1
      obtain ⟨x, hx⟩ : ∃ x, zs[p]? = some x := ⟨zs[p]'(by omega), List.getElem?_eq_getElem _⟩
      obtain ⟨x0, x1⟩ := HZ.out x (List.mem_of_getElem? hx)
      have hcx := rowI_get (k := .u32) hx
      have hps : p < (rowI .u32 zs).size := by rw [rowI_size, hl]; exact hp
      have HL := Lib.hid hl
      have HX := Lib.hid hx
      have HPS := Lib.hid hps
      clear hl hx hps
      have HE : Hid ((x / 262144 * 262144 + v % 262144) = (x / 512 * 512 + v % 512) / 262144 * 262144 + (v / 512) % 512 * 512 + (x / 512 * 512 + v % 512) % 512) := by show _ = _; omega
      go_enter Try.func5, Try.ntmps5
      go_wp2_with (go_at_call 14; go_in)
      refine (clone_c A n c zs _ HA.out (by omega) h1).mono ?_; rintro e w1 ⟨rfl, rfl⟩
      go_wp2_with fail
      refine (clone_c _ n n zs _ ?_ (by omega) h1).mono ?_
      · rw [← rowI_list]; exact arg_block (heap_alloc_new w _) (by rw [rowI_size, HL.out]) (by unfold maxLen; omega)
      rintro e w1 ⟨rfl, rfl⟩
      go_wp2_with (go_at_call 16; go_in)
      refine (setBx_c (w.heap.size + 1 + 1) (w.heap.size) p n n (x) v x0 x1 _ ?_ hp ?_ ?_).mono ?_
      · go_simp
      · first | (go_simp; done) | (have hps := HPS.out; clear hcx; go_simp; done)
      · go_simp
      rintro e w1 ⟨rfl, rfl⟩
      go_wp2_with fail
      go_wp2_with (go_at_call 16; go_in)
      refine (setB_c (w.heap.size + 1 + 1 + 1) (w.heap.size + 1) p n n (x) v x0 x1 _ ?_ hp ?_ ?_).mono ?_
      · go_simp
      · first | (go_simp; done) | (have hps := HPS.out; clear hcx; go_simp; done)
      · go_simp
      rintro e w1 ⟨rfl, rfl⟩
      go_wp2_with fail
      refine (setC_c (w.heap.size + 1 + 1 + 1) (w.heap.size + 1) p n n (x / 512 * 512 + v % 512) (v / 512) (by omega) (by omega) _ ?_ hp ?_ ?_).mono ?_
      · go_simp
      · first | (go_simp; done) | (have hps := HPS.out; clear hcx; go_simp; done)
      · go_simp
      rintro e w1 ⟨rfl, rfl⟩
      go_wp2_with fail
      refine (sameU32_c w.heap.size (w.heap.size + 1) n (fun i => if i = p then (x / 262144 * 262144 + v % 262144) else zs.getD i 0) _ h1 ?_ ?_).mono ?_
      · intro i hi
        have hX := rowI_setD .u32 zs p i (x / 262144 * 262144 + v % 262144) (by rw [HL.out]; exact hi)
        go_simp
      · intro i hi
        have hX := Lib.hid (rowI_setD .u32 zs p i (x / 262144 * 262144 + v % 262144) (by rw [HL.out]; exact hi))
        go_simp
        exact row_val (by first | omega | (unfold wrap64; omega)) hX.out
      rintro e w1 ⟨rfl, q, rfl⟩
      go_wp2_with fail
      go_ret
      exact ⟨rfl, by repeat (first | exact Below.refl _ _ | refine below_drewN ?_ _ | refine Below.alloc ?_ (by simp <;> omega) _ | refine Below.setCell ?_ (by simp <;> omega) _)⟩
  · by_cases h2 : n ≤ 1048576
    · go_enter Try.func5, Try.ntmps5
      go_wp2
      go_ret
      exact ⟨rfl, Below.refl _ _⟩
    · go_enter Try.func5, Try.ntmps5
      go_wp2
      go_ret
      exact ⟨rfl, Below.refl _ _⟩

theorem law_commute (A : Option Addr) (n c : Nat) (zs : List Int) (pc b d : Int) (w : World) (hA : Arg w A n c (zs.map (Value.int .u32))) (hz : ∀ x ∈ zs, 0 ≤ x ∧ x ≤ 4294967295)
    (hp : -9223372036854775808 ≤ pc ∧ pc ≤ 9223372036854775807) (hvb : -9223372036854775808 ≤ b ∧ b ≤ 9223372036854775807) (hvd : -9223372036854775808 ≤ d ∧ d ≤ 9223372036854775807) :
    Calls Try.prog 8 #[.slice A n c, .int .i64 pc, .int .i64 b, .int .i64 d] w fun e w' => e = .returned (.bool true) ∧ Below w.heap.size w w' := by
  have hmax : n ≤ 9223372036854775807 := by have h1 := hA.2.1; have h2 := hA.2.2.1; unfold maxLen at h2; omega
  have HA := Lib.hid hA
  have HZ := Lib.hid hz
  clear hA hz hp hvb hvd
  by_cases h1 : n ≤ 65536
  · rcases (show pc < 0 ∨ (n : Int) ≤ pc ∨ (0 ≤ pc ∧ pc < n) by omega) with h2 | h2 | ⟨p0, p1⟩
    · go_enter Try.func8, Try.ntmps8
      go_wp2
      go_ret
      exact ⟨rfl, Below.refl _ _⟩
    · go_enter Try.func8, Try.ntmps8
      go_wp2
      go_ret
      exact ⟨rfl, Below.refl _ _⟩
    · obtain ⟨p, rfl⟩ := Int.eq_ofNat_of_zero_le p0
      have hp : p < n := by omega
      have hl : zs.length = n := by simpa using HA.out.1
      obtain ⟨x, hx⟩ : ∃ x, zs[p]? = some x := ⟨zs[p]'(by omega), List.getElem?_eq_getElem _⟩
      obtain ⟨x0, x1⟩ := HZ.out x (List.mem_of_getElem? hx)
      have hcx := rowI_get (k := .u32) hx
      have hps : p < (rowI .u32 zs).size := by rw [rowI_size, hl]; exact hp
      have HL := Lib.hid hl
      have HX := Lib.hid hx
      have HPS := Lib.hid hps
      clear hl hx hps
      have HE : Hid (((x / 262144 * 262144 + d % 512 * 512 + x % 512) / 512 * 512 + b % 512) = (x / 512 * 512 + b % 512) / 262144 * 262144 + d % 512 * 512 + (x / 512 * 512 + b % 512) % 512) := by show _ = _; omega
      go_enter Try.func8, Try.ntmps8
      go_wp2_with (go_at_call 26; go_in)
      refine (clone_c A n c zs _ HA.out (by omega) h1).mono ?_; rintro e w1 ⟨rfl, rfl⟩
      go_wp2_with fail
      refine (clone_c _ n n zs _ ?_ (by omega) h1).mono ?_
      · rw [← rowI_list]; exact arg_block (heap_alloc_new w _) (by rw [rowI_size, HL.out]) (by unfold maxLen; omega)
      rintro e w1 ⟨rfl, rfl⟩
      go_wp2_with (go_at_call 16; go_in)
      refine (setC_c (w.heap.size + 1 + 1) (w.heap.size) p n n (x) d x0 x1 _ ?_ hp ?_ ?_).mono ?_
      · go_simp
      · first | (go_simp; done) | (have hps := HPS.out; clear hcx; go_simp; done)
      · go_simp
      rintro e w1 ⟨rfl, rfl⟩
      go_wp2_with fail
      refine (setB_c (w.heap.size + 1 + 1) (w.heap.size) p n n (x / 262144 * 262144 + d % 512 * 512 + x % 512) b (by omega) (by omega) _ ?_ hp ?_ ?_).mono ?_
      · go_simp
      · first | (go_simp; done) | (have hps := HPS.out; clear hcx; go_simp; done)
      · go_simp
      rintro e w1 ⟨rfl, rfl⟩
      go_wp2_with fail
      go_wp2_with (go_at_call 16; go_in)
      refine (setB_c (w.heap.size + 1 + 1 + 1) (w.heap.size + 1) p n n (x) b x0 x1 _ ?_ hp ?_ ?_).mono ?_
      · go_simp
      · first | (go_simp; done) | (have hps := HPS.out; clear hcx; go_simp; done)
      · go_simp
      rintro e w1 ⟨rfl, rfl⟩
      go_wp2_with fail
      refine (setC_c (w.heap.size + 1 + 1 + 1) (w.heap.size + 1) p n n (x / 512 * 512 + b % 512) d (by omega) (by omega) _ ?_ hp ?_ ?_).mono ?_
      · go_simp
      · first | (go_simp; done) | (have hps := HPS.out; clear hcx; go_simp; done)
      · go_simp
      rintro e w1 ⟨rfl, rfl⟩
      go_wp2_with fail
      refine (sameU32_c w.heap.size (w.heap.size + 1) n (fun i => if i = p then ((x / 262144 * 262144 + d % 512 * 512 + x % 512) / 512 * 512 + b % 512) else zs.getD i 0) _ h1 ?_ ?_).mono ?_
      · intro i hi
        have hX := rowI_setD .u32 zs p i ((x / 262144 * 262144 + d % 512 * 512 + x % 512) / 512 * 512 + b % 512) (by rw [HL.out]; exact hi)
        go_simp
      · intro i hi
        have hX := Lib.hid (rowI_setD .u32 zs p i ((x / 262144 * 262144 + d % 512 * 512 + x % 512) / 512 * 512 + b % 512) (by rw [HL.out]; exact hi))
        go_simp
        exact row_val (by first | omega | (unfold wrap64; omega)) hX.out
      rintro e w1 ⟨rfl, q, rfl⟩
      go_wp2_with fail
      go_ret
      exact ⟨rfl, by repeat (first | exact Below.refl _ _ | refine below_drewN ?_ _ | refine Below.alloc ?_ (by simp <;> omega) _ | refine Below.setCell ?_ (by simp <;> omega) _)⟩
  · by_cases h2 : n ≤ 1048576
    · go_enter Try.func8, Try.ntmps8
      go_wp2
      go_ret
      exact ⟨rfl, Below.refl _ _⟩
    · go_enter Try.func8, Try.ntmps8
      go_wp2
      go_ret
      exact ⟨rfl, Below.refl _ _⟩

theorem law_excess (A : Option Addr) (n c : Nat) (zs : List Int) (pc v : Int) (w : World) (hA : Arg w A n c (zs.map (Value.int .u32))) (hz : ∀ x ∈ zs, 0 ≤ x ∧ x ≤ 4294967295)
    (hp : -9223372036854775808 ≤ pc ∧ pc ≤ 9223372036854775807) (hvv : -9223372036854775808 ≤ v ∧ v ≤ 9223372036854775807) :
    Calls Try.prog 11 #[.slice A n c, .int .i64 pc, .int .i64 v] w fun e w' => e = .returned (.bool true) ∧ Below w.heap.size w w' := by
  have hmax : n ≤ 9223372036854775807 := by have h1 := hA.2.1; have h2 := hA.2.2.1; unfold maxLen at h2; omega
  have HA := Lib.hid hA
  have HZ := Lib.hid hz
  clear hA hz hp hvv
  by_cases h1 : n ≤ 65536
  · rcases (show pc < 0 ∨ (n : Int) ≤ pc ∨ (0 ≤ pc ∧ pc < n) by omega) with h2 | h2 | ⟨p0, p1⟩
    · go_enter Try.func11, Try.ntmps11
      go_wp2
      go_ret
      exact ⟨rfl, Below.refl _ _⟩
    · go_enter Try.func11, Try.ntmps11
      go_wp2
      go_ret
      exact ⟨rfl, Below.refl _ _⟩
    · obtain ⟨p, rfl⟩ := Int.eq_ofNat_of_zero_le p0
      have hp : p < n := by omega
      have hl : zs.length = n := by simpa using HA.out.1
      obtain ⟨x, hx⟩ : ∃ x, zs[p]? = some x := ⟨zs[p]'(by omega), List.getElem?_eq_getElem _⟩
      obtain ⟨x0, x1⟩ := HZ.out x (List.mem_of_getElem? hx)
      have hcx := rowI_get (k := .u32) hx
      have hps : p < (rowI .u32 zs).size := by rw [rowI_size, hl]; exact hp
      have HL := Lib.hid hl
      have HX := Lib.hid hx
      have HPS := Lib.hid hps
      clear hl hx hps
      have HE : Hid ((x / 262144 * 262144 + (v + 131071) % 262144) = x / 262144 * 262144 + wrap64 (v + 131071) % 262144) := by show _ = _; unfold wrap64; omega
      have hs : v < -131071 ∨ 131072 < v ∨ (-131071 ≤ v ∧ v ≤ 131072) := by omega
      go_enter Try.func11, Try.ntmps11
      go_wp2_with (go_at_call 30; go_in)
      refine (clone_c A n c zs _ HA.out (by omega) h1).mono ?_; rintro e w1 ⟨rfl, rfl⟩
      go_wp2_with fail
      refine (clone_c _ n n zs _ ?_ (by omega) h1).mono ?_
      · rw [← rowI_list]; exact arg_block (heap_alloc_new w _) (by rw [rowI_size, HL.out]) (by unfold maxLen; omega)
      rintro e w1 ⟨rfl, rfl⟩
      go_wp2_with (go_at_call 16; go_in)
      refine (setSbx_c (w.heap.size + 1 + 1) (w.heap.size) p n n (x) v x0 x1 _ ?_ hp ?_ ?_).mono ?_
      · go_simp
      · first | (go_simp; done) | (have hps := HPS.out; clear hcx; go_simp; done)
      · go_simp
      rintro e w1 ⟨rfl, rfl⟩
      go_wp2_with fail
      go_wp2_with (go_at_call 16; go_in)
      refine (setBx_c (w.heap.size + 1 + 1 + 1) (w.heap.size + 1) p n n (x) _ x0 x1 _ ?_ hp ?_ ?_).mono ?_
      · go_simp
      · first | (go_simp; done) | (have hps := HPS.out; clear hcx; go_simp; done)
      · go_simp
      rintro e w1 ⟨rfl, rfl⟩
      go_wp2_with fail
      refine (sameU32_c w.heap.size (w.heap.size + 1) n (fun i => if i = p then (x / 262144 * 262144 + (v + 131071) % 262144) else zs.getD i 0) _ h1 ?_ ?_).mono ?_
      · intro i hi
        have hX := rowI_setD .u32 zs p i (x / 262144 * 262144 + (v + 131071) % 262144) (by rw [HL.out]; exact hi)
        go_simp
      · intro i hi
        have hX := Lib.hid (rowI_setD .u32 zs p i (x / 262144 * 262144 + (v + 131071) % 262144) (by rw [HL.out]; exact hi))
        go_simp
        exact row_val (by first | omega | (unfold wrap64; omega)) hX.out
      rintro e w1 ⟨rfl, q, rfl⟩
      rcases hs with hs | hs | ⟨s0, s1⟩
      · go_wp2_with fail
        go_ret
        exact ⟨rfl, by repeat (first | exact Below.refl _ _ | refine below_drewN ?_ _ | refine Below.alloc ?_ (by simp <;> omega) _ | refine Below.setCell ?_ (by simp <;> omega) _)⟩
      · go_wp2_with fail
        go_ret
        exact ⟨rfl, by repeat (first | exact Below.refl _ _ | refine below_drewN ?_ _ | refine Below.alloc ?_ (by simp <;> omega) _ | refine Below.setCell ?_ (by simp <;> omega) _)⟩
      · go_wp2_with fail
        refine (at_c (w.heap.size + 1 + 1) w.heap.size p n n (x / 262144 * 262144 + (v + 131071) % 262144) _ ?_ hp ?_).mono ?_
        · go_simp
        · first | (go_simp; done) | (have hps := HPS.out; clear hcx; go_simp; done)
        rintro e w1 ⟨rfl, rfl⟩
        go_wp2_with fail
        go_wp2_with fail
        go_ret
        exact ⟨rfl, by repeat (first | exact Below.refl _ _ | refine below_drewN ?_ _ | refine Below.alloc ?_ (by simp <;> omega) _ | refine Below.setCell ?_ (by simp <;> omega) _)⟩
  · by_cases h2 : n ≤ 1048576
    · go_enter Try.func11, Try.ntmps11
      go_wp2
      go_ret
      exact ⟨rfl, Below.refl _ _⟩
    · go_enter Try.func11, Try.ntmps11
      go_wp2
      go_ret
      exact ⟨rfl, Below.refl _ _⟩

end Go.Proofs.Ytejkildapkilfaa
