/-
  The walks through the laws on codeStore.PropagateKMV over a code list that came in.
-/
import Derived.Test.YtmlhjgledpglhaaKmv
import Derived.Deep.OwnRows
namespace Go.Proofs.Ytmlhjgledpglhaa
open Go.RowKit
set_option linter.unusedVariables false

theorem info35 : (Try.prog.info? 35).map (fun i => (i.zero, i.size, i.bytes)) = some (some (.int .u32 0), 1, 4) := by kernel_rfl

set_option maxHeartbeats 1000000 in
set_option maxRecDepth 100000 in
theorem law_refuses (A : Option Addr) (n c : Nat) (zs : List Int) (pc top reg inc : Int) (w : World) (hA : Arg w A n c (zs.map (Value.int .u32))) (hz : ∀ x ∈ zs, 0 ≤ x ∧ x ≤ 4294967295)
    (hp : -9223372036854775808 ≤ pc ∧ pc ≤ 9223372036854775807) (ht : -9223372036854775808 ≤ top ∧ top ≤ 9223372036854775807) (hr : -9223372036854775808 ≤ reg ∧ reg ≤ 9223372036854775807) (hi : -9223372036854775808 ≤ inc ∧ inc ≤ 9223372036854775807) :
    Calls Try.prog 5 #[.slice A n c, .int .i64 pc, .int .i64 top, .int .i64 reg, .int .i64 inc] w fun e w' => e = .returned (.bool true) ∧ Below w.heap.size w w' := by
  have hmax : n ≤ 9223372036854775807 := by have h1 := hA.2.1; have h2 := hA.2.2.1; unfold maxLen at h2; omega
  have HA := Lib.hid hA
  have HZ := Lib.hid hz
  have HL : Hid (zs.length = n) := by show zs.length = n; simpa using hA.1
  clear hA hz hp ht hr hi
  by_cases h1 : n ≤ 65536
  · rcases (show pc < 0 ∨ (n : Int) < pc ∨ (0 ≤ pc ∧ pc ≤ n) by omega) with h2 | h2 | ⟨p0, p1⟩
    · go_enter Try.func5, Try.ntmps5
      go_wp2_with (go_at_call 20; go_in)
      all_goals (go_ret; exact ⟨rfl, Below.refl _ _⟩)
    · go_enter Try.func5, Try.ntmps5
      go_wp2_with (go_at_call 20; go_in)
      all_goals (go_ret; exact ⟨rfl, Below.refl _ _⟩)
    · by_cases h3 : 255 < top ∨ pc = 0
      · have hmk := fun W => run_make_row' (P := Try.prog) 33 35 (.int .u32 0) 4 Try.underlying33 info35 rfl .i64 .i64 n (by omega) (by omega) W
        by_cases h4 : pc = 0
        · subst h4
          clear h3
          by_cases h5 : 255 < top
          · skip
            go_enter Try.func5, Try.ntmps5
            go_wp2_with (go_at_call 20; go_in)
            clear hmk
            go_loopw [12] (fun i wr => ∃ k : Nat, k ≤ n ∧ i = .int .i64 k ∧ wr = w.alloc (.cells (fillCells ((zs.take k).map (Value.int .u32)) n (.int .u32 0)) 35)) (fun i _ => n - (intOf i).toNat)
            case atStart => exact ⟨0, Nat.zero_le _, rfl, by rw [fill_made]; rfl⟩
            case round =>
              obtain ⟨k, hk, rfl, rfl⟩ := hrel
              by_cases hlt : k < n
              · obtain ⟨b, off, rfl, hb, hc⟩ := HA.out.2.2.2.2 (by omega)
                obtain ⟨z, hz⟩ : ∃ z, zs[k]? = some z := ⟨zs[k]'(by rw [HL.out]; exact hlt), List.getElem?_eq_getElem _⟩
                have hcell : w.cell? ⟨b, off + k, none⟩ = some (.int .u32 z) := hc k _ (by simp [hz])
                have hlen : ((zs.take k).map (Value.int .u32)).length = k := by simp [HL.out]; omega
                have hat := fill_at ((zs.take k).map (Value.int .u32)) n (.int .u32 0) (by omega)
                have hset := fill_set ((zs.take k).map (Value.int .u32)) n (.int .u32 0) (.int .u32 z) (by omega)
                rw [hlen] at hat hset
                have hsn : (zs.take (k + 1)).map (Value.int .u32) = (zs.take k).map (Value.int .u32) ++ [.int .u32 z] := by rw [List.take_add_one, hz]; simp
                rw [← hsn] at hset
                generalize fillCells ((zs.take k).map (Value.int .u32)) n (.int .u32 0) = C at *
                have HS : Hid (C.setIfInBounds k (.int .u32 z) = fillCells ((zs.take (k + 1)).map (Value.int .u32)) n (.int .u32 0)) := hset
                have i0 : (0 : Int) ≤ (k : Int) := by omega
                have i1 : (k : Int) < (n : Int) := by omega
                clear hz hlen hsn hset hc
                go_wp2_with fail
                go_roundw
                case rel => exact ⟨k + 1, by omega, by go_num, by rw [HS.out]⟩
                case measure => simp [intOf]; omega
              · obtain rfl : k = n := by omega
                rw [rowI_fill .u32 zs k HL.out]
                generalize hRow : rowI .u32 zs = row at *
                have HRow := Lib.hid hRow
                clear hRow
                go_wp2_with (go_at_call 21; go_in)
                refine (prop_n (w.heap.size + 1 + 1 + 1) (w.heap.size + 1) (w.heap.size + 1 + 1) 4294967295 top 0 reg inc _ (by omega) (by omega) ?_ ?_ ?_ ?_ ?_ (by omega) (by omega)).mono ?_
                · exact last_zero _ _ (by go_simp)
                · go_simp
                · go_simp
                · go_simp
                · go_simp
                rintro e w' ⟨rfl, q, rfl⟩
                go_wp2_with (go_at_call 23; go_in)
                go_ret
                refine ⟨rfl, ?_⟩
                repeat (first | exact Below.refl _ _ | refine Below.drew ?_ | refine below_drewN ?_ _ | refine Below.alloc ?_ (by simp <;> omega) _ | refine Below.setCell ?_ (by simp <;> omega) _)
          · skip
            go_enter Try.func5, Try.ntmps5
            go_wp2_with (go_at_call 20; go_in)
            clear hmk
            go_loopw [12] (fun i wr => ∃ k : Nat, k ≤ n ∧ i = .int .i64 k ∧ wr = w.alloc (.cells (fillCells ((zs.take k).map (Value.int .u32)) n (.int .u32 0)) 35)) (fun i _ => n - (intOf i).toNat)
            case atStart => exact ⟨0, Nat.zero_le _, rfl, by rw [fill_made]; rfl⟩
            case round =>
              obtain ⟨k, hk, rfl, rfl⟩ := hrel
              by_cases hlt : k < n
              · obtain ⟨b, off, rfl, hb, hc⟩ := HA.out.2.2.2.2 (by omega)
                obtain ⟨z, hz⟩ : ∃ z, zs[k]? = some z := ⟨zs[k]'(by rw [HL.out]; exact hlt), List.getElem?_eq_getElem _⟩
                have hcell : w.cell? ⟨b, off + k, none⟩ = some (.int .u32 z) := hc k _ (by simp [hz])
                have hlen : ((zs.take k).map (Value.int .u32)).length = k := by simp [HL.out]; omega
                have hat := fill_at ((zs.take k).map (Value.int .u32)) n (.int .u32 0) (by omega)
                have hset := fill_set ((zs.take k).map (Value.int .u32)) n (.int .u32 0) (.int .u32 z) (by omega)
                rw [hlen] at hat hset
                have hsn : (zs.take (k + 1)).map (Value.int .u32) = (zs.take k).map (Value.int .u32) ++ [.int .u32 z] := by rw [List.take_add_one, hz]; simp
                rw [← hsn] at hset
                generalize fillCells ((zs.take k).map (Value.int .u32)) n (.int .u32 0) = C at *
                have HS : Hid (C.setIfInBounds k (.int .u32 z) = fillCells ((zs.take (k + 1)).map (Value.int .u32)) n (.int .u32 0)) := hset
                have i0 : (0 : Int) ≤ (k : Int) := by omega
                have i1 : (k : Int) < (n : Int) := by omega
                clear hz hlen hsn hset hc
                go_wp2_with fail
                go_roundw
                case rel => exact ⟨k + 1, by omega, by go_num, by rw [HS.out]⟩
                case measure => simp [intOf]; omega
              · obtain rfl : k = n := by omega
                rw [rowI_fill .u32 zs k HL.out]
                generalize hRow : rowI .u32 zs = row at *
                have HRow := Lib.hid hRow
                clear hRow
                go_wp2_with (go_at_call 21; go_in)
                refine (prop_n (w.heap.size + 1 + 1 + 1) (w.heap.size + 1) (w.heap.size + 1 + 1) 4294967295 top 0 reg inc _ (by omega) (by omega) ?_ ?_ ?_ ?_ ?_ (by omega) (by omega)).mono ?_
                · exact last_zero _ _ (by go_simp)
                · go_simp
                · go_simp
                · go_simp
                · go_simp
                rintro e w' ⟨rfl, q, rfl⟩
                go_wp2_with (go_at_call 23; go_in)
                go_ret
                refine ⟨rfl, ?_⟩
                repeat (first | exact Below.refl _ _ | refine Below.drew ?_ | refine below_drewN ?_ _ | refine Below.alloc ?_ (by simp <;> omega) _ | refine Below.setCell ?_ (by simp <;> omega) _)
        · have h5 : 255 < top := by omega
          have h6 : (pc == 0) = false := by simp <;> omega
          obtain ⟨p, rfl⟩ : ∃ p : Nat, pc = (p : Int) + 1 := ⟨(pc - 1).toNat, by omega⟩
          clear h3 h4
          obtain ⟨I, hI⟩ : ∃ I, zs[p]? = some I := ⟨zs[p]'(by rw [HL.out]; omega), List.getElem?_eq_getElem _⟩
          obtain ⟨I0, I1⟩ := HZ.out I (List.mem_of_getElem? hI)
          have hC := rowI_get (k := .u32) hI
          have HI := Lib.hid hC
          clear hI hC
          go_enter Try.func5, Try.ntmps5
          go_wp2_with (go_at_call 20; go_in)
          clear hmk
          go_loopw [12] (fun i wr => ∃ k : Nat, k ≤ n ∧ i = .int .i64 k ∧ wr = w.alloc (.cells (fillCells ((zs.take k).map (Value.int .u32)) n (.int .u32 0)) 35)) (fun i _ => n - (intOf i).toNat)
          case atStart => exact ⟨0, Nat.zero_le _, rfl, by rw [fill_made]; rfl⟩
          case round =>
            obtain ⟨k, hk, rfl, rfl⟩ := hrel
            by_cases hlt : k < n
            · obtain ⟨b, off, rfl, hb, hc⟩ := HA.out.2.2.2.2 (by omega)
              obtain ⟨z, hz⟩ : ∃ z, zs[k]? = some z := ⟨zs[k]'(by rw [HL.out]; exact hlt), List.getElem?_eq_getElem _⟩
              have hcell : w.cell? ⟨b, off + k, none⟩ = some (.int .u32 z) := hc k _ (by simp [hz])
              have hlen : ((zs.take k).map (Value.int .u32)).length = k := by simp [HL.out]; omega
              have hat := fill_at ((zs.take k).map (Value.int .u32)) n (.int .u32 0) (by omega)
              have hset := fill_set ((zs.take k).map (Value.int .u32)) n (.int .u32 0) (.int .u32 z) (by omega)
              rw [hlen] at hat hset
              have hsn : (zs.take (k + 1)).map (Value.int .u32) = (zs.take k).map (Value.int .u32) ++ [.int .u32 z] := by rw [List.take_add_one, hz]; simp
              rw [← hsn] at hset
              generalize fillCells ((zs.take k).map (Value.int .u32)) n (.int .u32 0) = C at *
              have HS : Hid (C.setIfInBounds k (.int .u32 z) = fillCells ((zs.take (k + 1)).map (Value.int .u32)) n (.int .u32 0)) := hset
              have i0 : (0 : Int) ≤ (k : Int) := by omega
              have i1 : (k : Int) < (n : Int) := by omega
              clear hz hlen hsn hset hc
              go_wp2_with fail
              go_roundw
              case rel => exact ⟨k + 1, by omega, by go_num, by rw [HS.out]⟩
              case measure => simp [intOf]; omega
            · obtain rfl : k = n := by omega
              rw [rowI_fill .u32 zs k HL.out]
              generalize hRow : rowI .u32 zs = row at *
              have HRow := Lib.hid hRow
              clear hRow
              have HC : Hid (row[p]? = some (.int .u32 I)) := HI
              have hno : ¬ (top ≤ I / 262144 % 256 ∧ (I / 67108864 = 0 ∨ (I / 67108864 = 2 ∧ I % 262144 ≤ 255))) := by omega
              have hNO := Lib.hid hno
              clear hno
              go_wp2_with (go_at_call 21; go_in)
              refine (prop_n (w.heap.size + 1 + 1 + 1) (w.heap.size + 1) (w.heap.size + 1 + 1) I top 0 reg inc _ (by omega) (by omega) ?_ ?_ ?_ ?_ ?_ (by omega) hNO.out).mono ?_
              · exact last_succ _ w.heap.size k p I _ (by go_simp) (by go_simp) (by omega) (by omega) (by go_simp; exact HC.out)
              · go_simp
              · go_simp
              · go_simp
              · go_simp
              rintro e w' ⟨rfl, q, rfl⟩
              go_wp2_with (go_at_call 23; go_in)
              go_ret
              refine ⟨rfl, ?_⟩
              repeat (first | exact Below.refl _ _ | refine Below.drew ?_ | refine below_drewN ?_ _ | refine Below.alloc ?_ (by simp <;> omega) _ | refine Below.setCell ?_ (by simp <;> omega) _)
      · have h5 : ¬ 255 < top := by omega
        have h6 : (pc == 0) = false := by simp <;> omega
        clear h3
        go_enter Try.func5, Try.ntmps5
        go_wp2_with (go_at_call 20; go_in)
        all_goals (go_ret; exact ⟨rfl, Below.refl _ _⟩)
  · have h1' : 65536 < n := by omega
    clear h1
    go_enter Try.func5, Try.ntmps5
    go_wp2_with (go_at_call 20; go_in)
    all_goals (go_ret; exact ⟨rfl, Below.refl _ _⟩)


set_option maxHeartbeats 1000000 in
set_option maxRecDepth 100000 in
theorem law_folds (A : Option Addr) (n c : Nat) (zs : List Int) (pc top reg inc : Int) (w : World) (hA : Arg w A n c (zs.map (Value.int .u32))) (hz : ∀ x ∈ zs, 0 ≤ x ∧ x ≤ 4294967295)
    (hp : -9223372036854775808 ≤ pc ∧ pc ≤ 9223372036854775807) (ht : -9223372036854775808 ≤ top ∧ top ≤ 9223372036854775807) (hr : -9223372036854775808 ≤ reg ∧ reg ≤ 9223372036854775807) (hi : -9223372036854775808 ≤ inc ∧ inc ≤ 9223372036854775807) :
    Calls Try.prog 11 #[.slice A n c, .int .i64 pc, .int .i64 top, .int .i64 reg, .int .i64 inc] w fun e w' => e = .returned (.bool true) ∧ Below w.heap.size w w' := by
  have hmax : n ≤ 9223372036854775807 := by have h1 := hA.2.1; have h2 := hA.2.2.1; unfold maxLen at h2; omega
  have HA := Lib.hid hA
  have HZ := Lib.hid hz
  have HL : Hid (zs.length = n) := by show zs.length = n; simpa using hA.1
  clear hA hz hp ht hr hi
  by_cases h1 : n ≤ 65536
  · rcases (show pc < 0 ∨ (n : Int) < pc ∨ (0 ≤ pc ∧ pc ≤ n) by omega) with h2 | h2 | ⟨p0, p1⟩
    · go_enter Try.func11, Try.ntmps11
      go_wp2_with (go_at_call 34; go_in)
      all_goals (go_ret; exact ⟨rfl, Below.refl _ _⟩)
    · go_enter Try.func11, Try.ntmps11
      go_wp2_with (go_at_call 34; go_in)
      all_goals (go_ret; exact ⟨rfl, Below.refl _ _⟩)
    · have hmk := fun W => run_make_row' (P := Try.prog) 33 35 (.int .u32 0) 4 Try.underlying33 info35 rfl .i64 .i64 n (by omega) (by omega) W
      by_cases h4 : pc = 0
      · subst h4
        go_enter Try.func11, Try.ntmps11
        go_wp2_with (go_at_call 34; go_in)
        clear hmk
        go_loopw [12] (fun i wr => ∃ k : Nat, k ≤ n ∧ i = .int .i64 k ∧ wr = w.alloc (.cells (fillCells ((zs.take k).map (Value.int .u32)) n (.int .u32 0)) 35)) (fun i _ => n - (intOf i).toNat)
        case atStart => exact ⟨0, Nat.zero_le _, rfl, by rw [fill_made]; rfl⟩
        case round =>
          obtain ⟨k, hk, rfl, rfl⟩ := hrel
          by_cases hlt : k < n
          · obtain ⟨b, off, rfl, hb, hc⟩ := HA.out.2.2.2.2 (by omega)
            obtain ⟨z, hz⟩ : ∃ z, zs[k]? = some z := ⟨zs[k]'(by rw [HL.out]; exact hlt), List.getElem?_eq_getElem _⟩
            have hcell : w.cell? ⟨b, off + k, none⟩ = some (.int .u32 z) := hc k _ (by simp [hz])
            have hlen : ((zs.take k).map (Value.int .u32)).length = k := by simp [HL.out]; omega
            have hat := fill_at ((zs.take k).map (Value.int .u32)) n (.int .u32 0) (by omega)
            have hset := fill_set ((zs.take k).map (Value.int .u32)) n (.int .u32 0) (.int .u32 z) (by omega)
            rw [hlen] at hat hset
            have hsn : (zs.take (k + 1)).map (Value.int .u32) = (zs.take k).map (Value.int .u32) ++ [.int .u32 z] := by rw [List.take_add_one, hz]; simp
            rw [← hsn] at hset
            generalize fillCells ((zs.take k).map (Value.int .u32)) n (.int .u32 0) = C at *
            have HS : Hid (C.setIfInBounds k (.int .u32 z) = fillCells ((zs.take (k + 1)).map (Value.int .u32)) n (.int .u32 0)) := hset
            have i0 : (0 : Int) ≤ (k : Int) := by omega
            have i1 : (k : Int) < (n : Int) := by omega
            clear hz hlen hsn hset hc
            go_wp2_with fail
            go_roundw
            case rel => exact ⟨k + 1, by omega, by go_num, by rw [HS.out]⟩
            case measure => simp [intOf]; omega
          · obtain rfl : k = n := by omega
            rw [rowI_fill .u32 zs k HL.out]
            generalize hRow : rowI .u32 zs = row at *
            have HRow := Lib.hid hRow
            clear hRow
            go_wp2_with (go_at_call 21; go_in)
            refine (prop_n (w.heap.size + 1 + 1 + 1) (w.heap.size + 1) (w.heap.size + 1 + 1) 4294967295 top 0 reg inc _ (by omega) (by omega) ?_ ?_ ?_ ?_ ?_ (by omega) (by omega)).mono ?_
            · exact last_zero _ _ (by go_simp)
            · go_simp
            · go_simp
            · go_simp
            · go_simp
            rintro e w8 ⟨rfl, q, hw8⟩
            have c1 : w8.cell? ⟨(w.heap.size + 1 + 1 + 1), 2, none⟩ = some (.int .i64 0) := by rw [hw8]; go_simp
            have c2 : w8.cell? ⟨(w.heap.size + 1), 0, none⟩ = some (.int .i64 (reg)) := by rw [hw8]; go_simp
            have c3 : w8.cell? ⟨(w.heap.size + 1 + 1), 0, none⟩ = some (.int .i64 (wrap64 (reg + inc))) := by rw [hw8]; go_simp
            have crow : Hid (∀ i u, row[i]? = some u → w8.cell? ⟨w.heap.size, i, none⟩ = some u) := by
              intro i u hu
              rw [hw8]
              first
                | (go_simp; done)
                | (go_simp; exact hu)
            have hb8 : Hid (Below w.heap.size w w8) := by
              show Below _ _ _
              rw [hw8]
              repeat (first | exact Below.refl _ _ | refine Below.drew ?_ | refine below_drewN ?_ _ | refine Below.alloc ?_ (by simp <;> omega) _ | refine Below.setCell ?_ (by simp <;> omega) _)
            clear hw8
            go_wp2_with fail
            go_loopw [16] (fun i wr => ∃ k2 q2 : Nat, k2 ≤ k ∧ i = .int .i64 k2 ∧ wr = w8.drewN q2) (fun i _ => k - (intOf i).toNat)
            case atStart => exact ⟨0, 0, Nat.zero_le _, rfl, rfl⟩
            case round =>
              obtain ⟨k2, q2, hk2, rfl, rfl⟩ := hrel
              by_cases hlt2 : k2 < k
              · obtain ⟨b, off, rfl, hb, hc⟩ := HA.out.2.2.2.2 (by omega)
                obtain ⟨z, hz⟩ : ∃ z, zs[k2]? = some z := ⟨zs[k2]'(by rw [HL.out]; exact hlt2), List.getElem?_eq_getElem _⟩
                have hcell : w8.cell? ⟨b, off + k2, none⟩ = some (.int .u32 z) := (hb8.out.cell (by exact hb)).trans (hc k2 _ (by simp [hz]))
                have hcell2 : w8.cell? ⟨w.heap.size, k2, none⟩ = some (.int .u32 z) := crow.out k2 _ (by rw [← HRow.out]; exact rowI_get hz)
                have i0 : (0 : Int) ≤ (k2 : Int) := by omega
                have i1 : (k2 : Int) < (k : Int) := by omega
                clear hz hc
                go_wp2_with fail
                go_quiet (fail)
                go_wp2_with fail
                go_roundw
                case rel => exact ⟨k2 + 1, _, by omega, by go_num, rfl⟩
                case measure => simp [intOf]; omega
              · obtain rfl : k2 = k := by omega
                go_wp2_with (go_at_call 23; go_in)
                go_ret
                exact ⟨rfl, below_drewN hb8.out _⟩
      · obtain ⟨p, rfl⟩ : ∃ p : Nat, pc = (p : Int) + 1 := ⟨(pc - 1).toNat, by omega⟩
        clear h4
        obtain ⟨I, hI⟩ : ∃ I, zs[p]? = some I := ⟨zs[p]'(by rw [HL.out]; omega), List.getElem?_eq_getElem _⟩
        obtain ⟨I0, I1⟩ := HZ.out I (List.mem_of_getElem? hI)
        have hC := rowI_get (k := .u32) hI
        have HI := Lib.hid hC
        clear hI hC
        by_cases hF : top ≤ I / 262144 % 256 ∧ (I / 67108864 = 0 ∨ (I / 67108864 = 2 ∧ I % 262144 ≤ 255))
        · obtain ⟨hA, hF | ⟨hF, hbx⟩⟩ := hF
          · have HF := Lib.hid hF
            have HAA := Lib.hid hA
            clear hF hA
            go_enter Try.func11, Try.ntmps11
            go_wp2_with (go_at_call 34; go_in)
            clear hmk
            go_loopw [12] (fun i wr => ∃ k : Nat, k ≤ n ∧ i = .int .i64 k ∧ wr = w.alloc (.cells (fillCells ((zs.take k).map (Value.int .u32)) n (.int .u32 0)) 35)) (fun i _ => n - (intOf i).toNat)
            case atStart => exact ⟨0, Nat.zero_le _, rfl, by rw [fill_made]; rfl⟩
            case round =>
              obtain ⟨k, hk, rfl, rfl⟩ := hrel
              by_cases hlt : k < n
              · obtain ⟨b, off, rfl, hb, hc⟩ := HA.out.2.2.2.2 (by omega)
                obtain ⟨z, hz⟩ : ∃ z, zs[k]? = some z := ⟨zs[k]'(by rw [HL.out]; exact hlt), List.getElem?_eq_getElem _⟩
                have hcell : w.cell? ⟨b, off + k, none⟩ = some (.int .u32 z) := hc k _ (by simp [hz])
                have hlen : ((zs.take k).map (Value.int .u32)).length = k := by simp [HL.out]; omega
                have hat := fill_at ((zs.take k).map (Value.int .u32)) n (.int .u32 0) (by omega)
                have hset := fill_set ((zs.take k).map (Value.int .u32)) n (.int .u32 0) (.int .u32 z) (by omega)
                rw [hlen] at hat hset
                have hsn : (zs.take (k + 1)).map (Value.int .u32) = (zs.take k).map (Value.int .u32) ++ [.int .u32 z] := by rw [List.take_add_one, hz]; simp
                rw [← hsn] at hset
                generalize fillCells ((zs.take k).map (Value.int .u32)) n (.int .u32 0) = C at *
                have HS : Hid (C.setIfInBounds k (.int .u32 z) = fillCells ((zs.take (k + 1)).map (Value.int .u32)) n (.int .u32 0)) := hset
                have i0 : (0 : Int) ≤ (k : Int) := by omega
                have i1 : (k : Int) < (n : Int) := by omega
                clear hz hlen hsn hset hc
                go_wp2_with fail
                go_roundw
                case rel => exact ⟨k + 1, by omega, by go_num, by rw [HS.out]⟩
                case measure => simp [intOf]; omega
              · obtain rfl : k = n := by omega
                rw [rowI_fill .u32 zs k HL.out]
                generalize hRow : rowI .u32 zs = row at *
                have HRow := Lib.hid hRow
                clear hRow
                have HC : Hid (row[p]? = some (.int .u32 I)) := HI
                go_wp2_with (go_at_call 21; go_in)
                refine (prop_m (w.heap.size + 1 + 1 + 1) (w.heap.size + 1) (w.heap.size + 1 + 1) p I top 0 inc _ (by omega) (by omega) ?_ ?_ ?_ (by omega) ?_ ?_ (by omega) HAA.out HF.out).mono ?_
                · exact last_succ _ w.heap.size k p I _ (by go_simp) (by go_simp) (by omega) (by omega) (by go_simp; exact HC.out)
                · go_simp
                · go_simp
                · go_simp
                · go_simp
                rintro e w8 ⟨rfl, q, hw8⟩
                have c1 : w8.cell? ⟨(w.heap.size + 1 + 1 + 1), 2, none⟩ = some (.int .i64 p) := by rw [hw8]; go_simp
                have c2 : w8.cell? ⟨(w.heap.size + 1), 0, none⟩ = some (.int .i64 (I % 512)) := by rw [hw8]; go_simp
                have c3 : w8.cell? ⟨(w.heap.size + 1 + 1), 0, none⟩ = some (.int .i64 (reg)) := by rw [hw8]; go_simp
                have crow : Hid (∀ i u, row[i]? = some u → w8.cell? ⟨w.heap.size, i, none⟩ = some u) := by
                  intro i u hu
                  rw [hw8]
                  first
                    | (go_simp; done)
                    | (go_simp; exact hu)
                have hb8 : Hid (Below w.heap.size w w8) := by
                  show Below _ _ _
                  rw [hw8]
                  repeat (first | exact Below.refl _ _ | refine Below.drew ?_ | refine below_drewN ?_ _ | refine Below.alloc ?_ (by simp <;> omega) _ | refine Below.setCell ?_ (by simp <;> omega) _)
                clear hw8
                have hpos : (0 : Int) < (p : Int) + 1 := by omega
                have v0 : 0 ≤ I % 512 := by omega
                have v1 : I % 512 ≤ 511 := by omega
                go_wp2_with fail
                go_loopw [16] (fun i wr => ∃ k2 q2 : Nat, k2 ≤ k ∧ i = .int .i64 k2 ∧ wr = w8.drewN q2) (fun i _ => k - (intOf i).toNat)
                case atStart => exact ⟨0, 0, Nat.zero_le _, rfl, rfl⟩
                case round =>
                  obtain ⟨k2, q2, hk2, rfl, rfl⟩ := hrel
                  by_cases hlt2 : k2 < k
                  · obtain ⟨b, off, rfl, hb, hc⟩ := HA.out.2.2.2.2 (by omega)
                    obtain ⟨z, hz⟩ : ∃ z, zs[k2]? = some z := ⟨zs[k2]'(by rw [HL.out]; exact hlt2), List.getElem?_eq_getElem _⟩
                    have hcell : w8.cell? ⟨b, off + k2, none⟩ = some (.int .u32 z) := (hb8.out.cell (by exact hb)).trans (hc k2 _ (by simp [hz]))
                    have hcell2 : w8.cell? ⟨w.heap.size, k2, none⟩ = some (.int .u32 z) := crow.out k2 _ (by rw [← HRow.out]; exact rowI_get hz)
                    have i0 : (0 : Int) ≤ (k2 : Int) := by omega
                    have i1 : (k2 : Int) < (k : Int) := by omega
                    clear hz hc
                    go_wp2_with fail
                    go_quiet (fail)
                    go_wp2_with fail
                    go_roundw
                    case rel => exact ⟨k2 + 1, _, by omega, by go_num, rfl⟩
                    case measure => simp [intOf]; omega
                  · obtain rfl : k2 = k := by omega
                    go_wp2_with (go_at_call 23; go_in)
                    go_ret
                    exact ⟨rfl, below_drewN hb8.out _⟩
          · have HF := Lib.hid hF
            have HAA := Lib.hid hA
            have HBX := Lib.hid hbx
            clear hF hA hbx
            go_enter Try.func11, Try.ntmps11
            go_wp2_with (go_at_call 34; go_in)
            clear hmk
            go_loopw [12] (fun i wr => ∃ k : Nat, k ≤ n ∧ i = .int .i64 k ∧ wr = w.alloc (.cells (fillCells ((zs.take k).map (Value.int .u32)) n (.int .u32 0)) 35)) (fun i _ => n - (intOf i).toNat)
            case atStart => exact ⟨0, Nat.zero_le _, rfl, by rw [fill_made]; rfl⟩
            case round =>
              obtain ⟨k, hk, rfl, rfl⟩ := hrel
              by_cases hlt : k < n
              · obtain ⟨b, off, rfl, hb, hc⟩ := HA.out.2.2.2.2 (by omega)
                obtain ⟨z, hz⟩ : ∃ z, zs[k]? = some z := ⟨zs[k]'(by rw [HL.out]; exact hlt), List.getElem?_eq_getElem _⟩
                have hcell : w.cell? ⟨b, off + k, none⟩ = some (.int .u32 z) := hc k _ (by simp [hz])
                have hlen : ((zs.take k).map (Value.int .u32)).length = k := by simp [HL.out]; omega
                have hat := fill_at ((zs.take k).map (Value.int .u32)) n (.int .u32 0) (by omega)
                have hset := fill_set ((zs.take k).map (Value.int .u32)) n (.int .u32 0) (.int .u32 z) (by omega)
                rw [hlen] at hat hset
                have hsn : (zs.take (k + 1)).map (Value.int .u32) = (zs.take k).map (Value.int .u32) ++ [.int .u32 z] := by rw [List.take_add_one, hz]; simp
                rw [← hsn] at hset
                generalize fillCells ((zs.take k).map (Value.int .u32)) n (.int .u32 0) = C at *
                have HS : Hid (C.setIfInBounds k (.int .u32 z) = fillCells ((zs.take (k + 1)).map (Value.int .u32)) n (.int .u32 0)) := hset
                have i0 : (0 : Int) ≤ (k : Int) := by omega
                have i1 : (k : Int) < (n : Int) := by omega
                clear hz hlen hsn hset hc
                go_wp2_with fail
                go_roundw
                case rel => exact ⟨k + 1, by omega, by go_num, by rw [HS.out]⟩
                case measure => simp [intOf]; omega
              · obtain rfl : k = n := by omega
                rw [rowI_fill .u32 zs k HL.out]
                generalize hRow : rowI .u32 zs = row at *
                have HRow := Lib.hid hRow
                clear hRow
                have HC : Hid (row[p]? = some (.int .u32 I)) := HI
                go_wp2_with (go_at_call 21; go_in)
                refine (prop_k (w.heap.size + 1 + 1 + 1) (w.heap.size + 1) (w.heap.size + 1 + 1) p I top 0 inc _ (by omega) (by omega) ?_ ?_ ?_ (by omega) ?_ ?_ (by omega) HAA.out HF.out HBX.out).mono ?_
                · exact last_succ _ w.heap.size k p I _ (by go_simp) (by go_simp) (by omega) (by omega) (by go_simp; exact HC.out)
                · go_simp
                · go_simp
                · go_simp
                · go_simp
                rintro e w8 ⟨rfl, q, hw8⟩
                have c1 : w8.cell? ⟨(w.heap.size + 1 + 1 + 1), 2, none⟩ = some (.int .i64 p) := by rw [hw8]; go_simp
                have c2 : w8.cell? ⟨(w.heap.size + 1), 0, none⟩ = some (.int .i64 (I % 262144 + 256)) := by rw [hw8]; go_simp
                have c3 : w8.cell? ⟨(w.heap.size + 1 + 1), 0, none⟩ = some (.int .i64 (reg)) := by rw [hw8]; go_simp
                have crow : Hid (∀ i u, row[i]? = some u → w8.cell? ⟨w.heap.size, i, none⟩ = some u) := by
                  intro i u hu
                  rw [hw8]
                  first
                    | (go_simp; done)
                    | (go_simp; exact hu)
                have hb8 : Hid (Below w.heap.size w w8) := by
                  show Below _ _ _
                  rw [hw8]
                  repeat (first | exact Below.refl _ _ | refine Below.drew ?_ | refine below_drewN ?_ _ | refine Below.alloc ?_ (by simp <;> omega) _ | refine Below.setCell ?_ (by simp <;> omega) _)
                clear hw8
                have hpos : (0 : Int) < (p : Int) + 1 := by omega
                have v0 : 0 ≤ I % 262144 + 256 := by omega
                have v1 : I % 262144 + 256 ≤ 511 := by have := HBX.out; omega
                go_wp2_with fail
                go_loopw [16] (fun i wr => ∃ k2 q2 : Nat, k2 ≤ k ∧ i = .int .i64 k2 ∧ wr = w8.drewN q2) (fun i _ => k - (intOf i).toNat)
                case atStart => exact ⟨0, 0, Nat.zero_le _, rfl, rfl⟩
                case round =>
                  obtain ⟨k2, q2, hk2, rfl, rfl⟩ := hrel
                  by_cases hlt2 : k2 < k
                  · obtain ⟨b, off, rfl, hb, hc⟩ := HA.out.2.2.2.2 (by omega)
                    obtain ⟨z, hz⟩ : ∃ z, zs[k2]? = some z := ⟨zs[k2]'(by rw [HL.out]; exact hlt2), List.getElem?_eq_getElem _⟩
                    have hcell : w8.cell? ⟨b, off + k2, none⟩ = some (.int .u32 z) := (hb8.out.cell (by exact hb)).trans (hc k2 _ (by simp [hz]))
                    have hcell2 : w8.cell? ⟨w.heap.size, k2, none⟩ = some (.int .u32 z) := crow.out k2 _ (by rw [← HRow.out]; exact rowI_get hz)
                    have i0 : (0 : Int) ≤ (k2 : Int) := by omega
                    have i1 : (k2 : Int) < (k : Int) := by omega
                    clear hz hc
                    go_wp2_with fail
                    go_quiet (fail)
                    go_wp2_with fail
                    go_roundw
                    case rel => exact ⟨k2 + 1, _, by omega, by go_num, rfl⟩
                    case measure => simp [intOf]; omega
                  · obtain rfl : k2 = k := by omega
                    go_wp2_with (go_at_call 23; go_in)
                    go_ret
                    exact ⟨rfl, below_drewN hb8.out _⟩
        · have HNO := Lib.hid hF
          clear hF
          go_enter Try.func11, Try.ntmps11
          go_wp2_with (go_at_call 34; go_in)
          clear hmk
          go_loopw [12] (fun i wr => ∃ k : Nat, k ≤ n ∧ i = .int .i64 k ∧ wr = w.alloc (.cells (fillCells ((zs.take k).map (Value.int .u32)) n (.int .u32 0)) 35)) (fun i _ => n - (intOf i).toNat)
          case atStart => exact ⟨0, Nat.zero_le _, rfl, by rw [fill_made]; rfl⟩
          case round =>
            obtain ⟨k, hk, rfl, rfl⟩ := hrel
            by_cases hlt : k < n
            · obtain ⟨b, off, rfl, hb, hc⟩ := HA.out.2.2.2.2 (by omega)
              obtain ⟨z, hz⟩ : ∃ z, zs[k]? = some z := ⟨zs[k]'(by rw [HL.out]; exact hlt), List.getElem?_eq_getElem _⟩
              have hcell : w.cell? ⟨b, off + k, none⟩ = some (.int .u32 z) := hc k _ (by simp [hz])
              have hlen : ((zs.take k).map (Value.int .u32)).length = k := by simp [HL.out]; omega
              have hat := fill_at ((zs.take k).map (Value.int .u32)) n (.int .u32 0) (by omega)
              have hset := fill_set ((zs.take k).map (Value.int .u32)) n (.int .u32 0) (.int .u32 z) (by omega)
              rw [hlen] at hat hset
              have hsn : (zs.take (k + 1)).map (Value.int .u32) = (zs.take k).map (Value.int .u32) ++ [.int .u32 z] := by rw [List.take_add_one, hz]; simp
              rw [← hsn] at hset
              generalize fillCells ((zs.take k).map (Value.int .u32)) n (.int .u32 0) = C at *
              have HS : Hid (C.setIfInBounds k (.int .u32 z) = fillCells ((zs.take (k + 1)).map (Value.int .u32)) n (.int .u32 0)) := hset
              have i0 : (0 : Int) ≤ (k : Int) := by omega
              have i1 : (k : Int) < (n : Int) := by omega
              clear hz hlen hsn hset hc
              go_wp2_with fail
              go_roundw
              case rel => exact ⟨k + 1, by omega, by go_num, by rw [HS.out]⟩
              case measure => simp [intOf]; omega
            · obtain rfl : k = n := by omega
              rw [rowI_fill .u32 zs k HL.out]
              generalize hRow : rowI .u32 zs = row at *
              have HRow := Lib.hid hRow
              clear hRow
              have HC : Hid (row[p]? = some (.int .u32 I)) := HI
              go_wp2_with (go_at_call 21; go_in)
              refine (prop_n (w.heap.size + 1 + 1 + 1) (w.heap.size + 1) (w.heap.size + 1 + 1) I top 0 reg inc _ (by omega) (by omega) ?_ ?_ ?_ ?_ ?_ (by omega) HNO.out).mono ?_
              · exact last_succ _ w.heap.size k p I _ (by go_simp) (by go_simp) (by omega) (by omega) (by go_simp; exact HC.out)
              · go_simp
              · go_simp
              · go_simp
              · go_simp
              rintro e w8 ⟨rfl, q, hw8⟩
              have c1 : w8.cell? ⟨(w.heap.size + 1 + 1 + 1), 2, none⟩ = some (.int .i64 ((p : Int) + 1)) := by rw [hw8]; go_simp
              have c2 : w8.cell? ⟨(w.heap.size + 1), 0, none⟩ = some (.int .i64 (reg)) := by rw [hw8]; go_simp
              have c3 : w8.cell? ⟨(w.heap.size + 1 + 1), 0, none⟩ = some (.int .i64 (wrap64 (reg + inc))) := by rw [hw8]; go_simp
              have crow : Hid (∀ i u, row[i]? = some u → w8.cell? ⟨w.heap.size, i, none⟩ = some u) := by
                intro i u hu
                rw [hw8]
                first
                  | (go_simp; done)
                  | (go_simp; exact hu)
              have hb8 : Hid (Below w.heap.size w w8) := by
                show Below _ _ _
                rw [hw8]
                repeat (first | exact Below.refl _ _ | refine Below.drew ?_ | refine below_drewN ?_ _ | refine Below.alloc ?_ (by simp <;> omega) _ | refine Below.setCell ?_ (by simp <;> omega) _)
              clear hw8
              have hpos : (0 : Int) < (p : Int) + 1 := by omega
              have hne : ((p : Int) + 1 == (p : Int)) = false := by simp <;> omega
              go_wp2_with fail
              go_loopw [16] (fun i wr => ∃ k2 q2 : Nat, k2 ≤ k ∧ i = .int .i64 k2 ∧ wr = w8.drewN q2) (fun i _ => k - (intOf i).toNat)
              case atStart => exact ⟨0, 0, Nat.zero_le _, rfl, rfl⟩
              case round =>
                obtain ⟨k2, q2, hk2, rfl, rfl⟩ := hrel
                by_cases hlt2 : k2 < k
                · obtain ⟨b, off, rfl, hb, hc⟩ := HA.out.2.2.2.2 (by omega)
                  obtain ⟨z, hz⟩ : ∃ z, zs[k2]? = some z := ⟨zs[k2]'(by rw [HL.out]; exact hlt2), List.getElem?_eq_getElem _⟩
                  have hcell : w8.cell? ⟨b, off + k2, none⟩ = some (.int .u32 z) := (hb8.out.cell (by exact hb)).trans (hc k2 _ (by simp [hz]))
                  have hcell2 : w8.cell? ⟨w.heap.size, k2, none⟩ = some (.int .u32 z) := crow.out k2 _ (by rw [← HRow.out]; exact rowI_get hz)
                  have i0 : (0 : Int) ≤ (k2 : Int) := by omega
                  have i1 : (k2 : Int) < (k : Int) := by omega
                  clear hz hc
                  go_wp2_with fail
                  go_quiet (fail)
                  go_wp2_with fail
                  go_roundw
                  case rel => exact ⟨k2 + 1, _, by omega, by go_num, rfl⟩
                  case measure => simp [intOf]; omega
                · obtain rfl : k2 = k := by omega
                  go_wp2_with (go_at_call 23; go_in)
                  go_ret
                  exact ⟨rfl, below_drewN hb8.out _⟩
  · have h1' : 65536 < n := by omega
    clear h1
    go_enter Try.func11, Try.ntmps11
    go_wp2_with (go_at_call 34; go_in)
    all_goals (go_ret; exact ⟨rfl, Below.refl _ _⟩)

end Go.Proofs.Ytmlhjgledpglhaa
