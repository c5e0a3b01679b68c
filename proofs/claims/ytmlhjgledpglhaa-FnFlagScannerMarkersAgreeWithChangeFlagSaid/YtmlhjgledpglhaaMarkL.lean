/-
  The law: with two one-byte markers, what the scanner's buffer holds agrees with the changes that Next reported.
-/
import Derived.Test.YtmlhjgledpglhaaMark
import Derived.Test.YtmlhjgledpglhaaPass
import Derived.Laws.BytesArg
namespace Go.Proofs.Ytmlhjgledpglhaa
open Go.RowKit
set_option linter.unusedVariables false

/-- string(b) of a new slice of one byte. -/
theorem conv_one (w : World) (g : Nat) (x : Int) (fr : Nat × Nat) (h : w.heap[g]? = some (.cells #[.int .u8 x] 5 fr)) : (convert 27 9 (.slice (some ⟨g, 0, none⟩) 1 1)).run Try.prog w = .ok (.string (strOfNums [x])) w :=
  run_convert_bytes_arg w 27 5 Try.underlying27 Try.underlying5 g 0 1 1 [x] rfl (fun i hi => by
    obtain rfl : i = 0 := by omega
    exact (cell_of_row w g 0 _ 5 fr h).trans rfl) 9 Try.underlying9
theorem cells_one (x : Nat) (h : x < 256) : Lib.strCells (strOfNums [(x : Int)]) = [.int .u8 (x : Int)] := by
  simp [Lib.strCells, strOfNums]
  omega
theorem size_one (x : Int) : (strOfNums [x]).size = 1 := rfl

theorem count_step {b : List Nat} {j x : Nat} (h : b[j]? = some x) (o : Nat) : (b.take (j + 1)).count o = (b.take j).count o + if x = o then 1 else 0 := by
  rw [List.take_add_one, h, List.count_append]
  simp [List.count_singleton]

set_option maxHeartbeats 1000000 in
set_option maxRecDepth 100000 in
theorem marks_main (F O C : Nat) (s : ByteArray) (w : World) (hF : F < 256) (hO : O < 256) (hC : C < 256) (hs : s.size ≤ 65536) (hoc : O ≠ C) (hof : O ≠ F) (hcf : C ≠ F) :
    Calls Try.prog 4 #[.int .u8 (F : Int), .int .u8 (O : Int), .int .u8 (C : Int), .string s] w fun e w' => e = .returned (.bool true) ∧ Below w.heap.size w w' := by
  have e1 : ((O : Int) == (C : Int)) = false := by simp <;> omega
  have e2 : ((O : Int) == (F : Int)) = false := by simp <;> omega
  have e3 : ((C : Int) == (F : Int)) = false := by simp <;> omega
  have v1 := conv_one (w.alloc (.cells #[.int .u8 (O : Int)] 5)) w.heap.size O (0, 0) (heap_alloc_new _ _)
  have v2 := conv_one ((w.alloc (.cells #[.int .u8 (O : Int)] 5)).alloc (.cells #[.int .u8 (C : Int)] 5)) (w.heap.size + 1) C (0, 0) (by have := heap_alloc_new (w.alloc (.cells #[.int .u8 (O : Int)] 5)) (.cells #[.int .u8 (C : Int)] 5); simpa using this)
  have HL := Lib.hid (bs_length s)
  go_enter Try.func4, Try.ntmps4
  go_wp2_with (go_at_call 16; go_in)
  have hG0 : w.heap.size < ((w.alloc (.cells #[.int .u8 (O : Int)] 5)).alloc (.cells #[.int .u8 (C : Int)] 5)).heap.size := by simp; omega
  have L0 : Hid (Below w.heap.size w ((w.alloc (.cells #[.int .u8 (O : Int)] 5)).alloc (.cells #[.int .u8 (C : Int)] 5))) := ((Below.refl _ _).alloc (Nat.le_refl _) _).alloc (by simp) _
  clear v1 v2
  generalize (w.alloc (.cells #[.int .u8 (O : Int)] 5)).alloc (.cells #[.int .u8 (C : Int)] 5) = w0 at *
  have hz1 := size_one (O : Int)
  have hz2 := size_one (C : Int)
  have k1 := cells_one O hO
  have k2 := cells_one C hC
  generalize strOfNums [(O : Int)] = so at *
  generalize strOfNums [(C : Int)] = sc at *
  refine (newScan_c F so sc s w0).mono ?_; rintro e w1 ⟨f, rfl, b1, hfl, hfg, g1, cap1, hblk, hown⟩
  have g1l := hown.lt g1 rfl
  have S0 : Hid (Scan w1 w0.heap.size (w.heap.size, w1.heap[w.heap.size]?) f F so sc s [] 0 false false) :=
    ⟨⟨g1, cap1, hblk, hown, by show w.heap.size ≠ g1; omega⟩, hfg, rfl, by show w.heap.size ≠ f; omega, by show w.heap.size < _; omega⟩
  have L1 := Lib.hid b1
  have HZ : Hid (so.size = 1 ∧ sc.size = 1 ∧ Lib.strCells so = [.int .u8 (O : Int)] ∧ Lib.strCells sc = [.int .u8 (C : Int)]) := ⟨hz1, hz2, k1, k2⟩
  have HD : Hid (O ≠ C ∧ O ≠ F ∧ C ≠ F) := ⟨hoc, hof, hcf⟩
  clear b1 hblk hown hz1 hz2 k1 k2 hoc hof hcf hfl hfg g1l
  generalize hG : (w.heap.size, w1.heap[w.heap.size]?) = G at *
  clear hG
  go_wp2_with fail
  go_loopw [10, 11, 12, 13] (fun chv rt dn i wr => ∃ (k ch pos : Nat) (hf cf : Bool) (b : List Nat), k ≤ s.size + 1 ∧ i = .int .i64 k ∧ rt = .int .i64 k ∧ dn = .bool false ∧ chv = .int .i64 ch ∧
    Hid (Scan wr w0.heap.size G f F so sc s (u8s b) pos hf cf) ∧ Hid (Mk O C F k ch pos hf b) ∧ pos ≤ s.size ∧ k ≤ pos ∧ ch ≤ 2 * pos ∧ Hid (Below w0.heap.size w0 wr)) (fun _ _ _ i _ => s.size + 2 - (intOf i).toNat)
  case atStart => exact ⟨0, 0, 0, false, false, [], by omega, rfl, rfl, rfl, rfl, S0.out, ⟨fun i x h => by simp at h, rfl, rfl, Nat.le_refl _, fun h => by cases h⟩, Nat.zero_le _, Nat.le_refl _, Nat.le_refl _, L1.out⟩
  case round =>
    obtain ⟨k, ch, pos, hf, cf, b, hk, rfl, rfl, rfl, rfl, hSc, hM, hps, hkp, hcp, hBel⟩ := hrel
    have i1 : (k : Int) ≤ (s.size : Int) := by omega
    have hbl : (u8s b).length ≤ 131072 := by have := hM.out.len; unfold u8s; rw [List.length_map]; omega
    go_wp2_with fail
    refine (next_c (s.size - pos) wr w0.heap.size G f F so sc s _ pos hf cf hSc.out (by omega) (by rw [HZ.out.1]; omega) (by rw [HZ.out.2.1]; omega) hps (Nat.le_refl _) (by omega)).mono ?_
    rintro e w3 ⟨c, eo, pos', hf', cf', buf', rfl, hN, h3, b3⟩
    rw [HZ.out.2.2.1, HZ.out.2.2.2] at hN
    obtain ⟨b', rfl, hp2, hr⟩ := nx_mark hN HD.out.1 HD.out.2.1 HD.out.2.2 k ch b rfl hM.out (by rw [HL.out]; exact hps)
    rw [HL.out] at hp2 hr
    have B3 := Lib.hid (hBel.out.trans b3)
    obtain ⟨c0, c1, c2, c4, c5, c6, c7, c8, _, _, _⟩ := h3.cells
    have H3 := Lib.hid h3
    clear hN h3 b3 hbl
    rcases hr with ⟨rfl, rfl, rfl, hok, hop, hfg, hln⟩ | ⟨rfl, hlt, hm', hx⟩
    · have hM3 := hM.out.flags
      obtain ⟨gb, capb, hblk, hbown, hbg⟩ := H3.out.ex
      have hul : (u8s b').length = b'.length := by unfold u8s; rw [List.length_map]
      rw [hul] at hblk hbown
      have cb : w3.cell? ⟨f, 3, none⟩ = some (.slice (some ⟨gb, 0, none⟩) b'.length capb) := by rw [hblk.cell]; rfl
      have BF := Lib.hid (own_arg hbown)
      have OK := Lib.hid hok
      have HC3 : Hid (b'.count O = ch ∧ 2 * b'.count F + k = s.size) := ⟨hop, hfg⟩
      obtain ⟨q, hq⟩ : ∃ q : Nat, q = b'.count F := ⟨_, rfl⟩
      have hqk : 2 * q + k = s.size := by rw [hq]; exact hfg
      have HQ := Lib.hid hq
      have r1 : ((s.size : Int) - (k : Int)) % 2 = 0 := by omega
      have hcb : ch ≤ b'.length := by rw [← hop]; exact List.count_le_length
      clear hblk hbown hul hok hop hfg hq
      generalize hn : b'.length = n at *
      have HN := Lib.hid hn
      clear hn
      go_wp2_with (go_at_call 19; go_in)
      have HR1 := Lib.hid r1
      have HQK := Lib.hid hqk
      clear r1 hqk
      have hqs : q ≤ s.size := by have := HQK.out; omega
      go_loopw [17, 18, 19] (fun ov fv i wr => ∃ j p r : Nat, j ≤ n ∧ i = .int .i64 j ∧ ov = .int .i64 p ∧ fv = .int .i64 r ∧ Hid (p = (b'.take j).count O) ∧ Hid (r = (b'.take j).count F) ∧ p ≤ j ∧ r ≤ j ∧ wr = w3) (fun _ _ i _ => n - (intOf i).toNat)
      case atStart => exact ⟨0, 0, 0, Nat.zero_le _, rfl, rfl, rfl, Lib.hid rfl, Lib.hid rfl, Nat.le_refl _, Nat.le_refl _, rfl⟩
      case round =>
        obtain ⟨j, p, r, hj, rfl, rfl, rfl, hp, hr, hpj, hrj, rfl⟩ := hrel
        have hn64 : n ≤ 9223372036854775807 := by omega
        by_cases hlt2 : j < n
        · obtain ⟨b6, o6, e6, hb6, hc6⟩ := BF.out.2.2.2.2 (by omega)
          obtain ⟨rfl, rfl⟩ : gb = b6 ∧ 0 = o6 := by simpa using e6
          obtain ⟨x, hx⟩ : ∃ x, b'[j]? = some x := ⟨b'[j]'(by rw [HN.out]; exact hlt2), List.getElem?_eq_getElem _⟩
          have cj : wr.cell? ⟨gb, j, none⟩ = some (.int .u8 (x : Int)) := by have := hc6 j (.int .u8 (x : Int)) (by unfold u8s; rw [List.getElem?_map, hx]; rfl); simpa using this
          have HP1 := Lib.hid (hp.out ▸ count_step hx O)
          have HR2 := Lib.hid (hr.out ▸ count_step hx F)
          have i0 : (0 : Int) ≤ (j : Int) := by omega
          have i2 : (j : Int) < (n : Int) := by omega
          have hcase := OK.out j x hx
          have HC6 := Lib.hid hc6
          clear hc6 e6 hx
          rcases hcase with rfl | rfl | ⟨rfl, hj0, hj1⟩
          · have s1 : ((x : Int) == (x : Int)) = true := by simp
            have P1 : Hid ((b'.take (j + 1)).count x = p + 1) := Lib.hid (by have := HP1.out; rw [if_pos rfl] at this; exact this)
            have R1 : Hid ((b'.take (j + 1)).count F = r) := Lib.hid (by have := HR2.out; rw [if_neg HD.out.2.1] at this; exact this)
            clear HP1 HR2
            go_wp2_with fail
            go_roundw
            case rel => exact ⟨j + 1, p + 1, r, by omega, by go_num, by go_num, rfl, Lib.hid P1.out.symm, Lib.hid R1.out.symm, by omega, by omega, by first | rfl | trivial⟩
            case measure => simp [intOf]; omega
          · have s1 : ((x : Int) == (O : Int)) = false := by have := HD.out.2.1; simp <;> omega
            have s2 : ((x : Int) == (x : Int)) = true := by simp
            have P1 : Hid ((b'.take (j + 1)).count O = p) := Lib.hid (by have := HP1.out; rw [if_neg (Ne.symm HD.out.2.1)] at this; exact this)
            have R1 : Hid ((b'.take (j + 1)).count x = r + 1) := Lib.hid (by have := HR2.out; rw [if_pos rfl] at this; exact this)
            clear HP1 HR2
            go_wp2_with fail
            go_roundw
            case rel => exact ⟨j + 1, p, r + 1, by omega, by go_num, rfl, by go_num, Lib.hid P1.out.symm, Lib.hid R1.out.symm, by omega, by omega, by first | rfl | trivial⟩
            case measure => simp [intOf]; omega
          · have s1 : ((x : Int) == (O : Int)) = false := by have := HD.out.1; simp <;> omega
            have s2 : ((x : Int) == (F : Int)) = false := by have := HD.out.2.2; simp <;> omega
            have s3 : ((x : Int) == (x : Int)) = true := by simp
            have s4 : ((j : Int) == 0) = false := by simp <;> omega
            have s5 : ((O : Int) == (O : Int)) = true := by simp
            have cj1 : wr.cell? ⟨gb, j - 1, none⟩ = some (.int .u8 (O : Int)) := by have := HC6.out (j - 1) (.int .u8 (O : Int)) (by unfold u8s; rw [List.getElem?_map, hj1]; rfl); simpa using this
            have P1 : Hid ((b'.take (j + 1)).count O = p) := Lib.hid (by have := HP1.out; rw [if_neg (Ne.symm HD.out.1)] at this; exact this)
            have R1 : Hid ((b'.take (j + 1)).count F = r) := Lib.hid (by have := HR2.out; rw [if_neg HD.out.2.2] at this; exact this)
            clear HP1 HR2 hj1
            go_wp2_with fail
            go_roundw
            case rel => exact ⟨j + 1, p, r, by omega, by go_num, rfl, rfl, Lib.hid P1.out.symm, Lib.hid R1.out.symm, by omega, by omega, by first | rfl | trivial⟩
            case measure => simp [intOf]; omega
        · obtain rfl : j = n := by omega
          have ht : b'.take j = b' := List.take_of_length_le (by rw [HN.out]; exact Nat.le_refl _)
          have hp2' := hp.out
          have hr2' := hr.out
          rw [ht] at hp2' hr2'
          obtain rfl : p = ch := hp2'.trans HC3.out.1
          obtain rfl : r = q := hr2'.trans HQ.out.symm
          have s1 : ((p : Int) == (p : Int)) = true := by simp
          clear ht hp2' hr2'
          go_wp2_with fail
          go_ret
          refine ⟨?_, L0.out.trans (B3.out.mono L0.out.size)⟩
          have := HQK.out
          congr 2
          simp
          omega
    · have hM3 := hm'.flags
      have HM := Lib.hid hm'
      have hx2 : cf' = true → ((c : Int) == (F : Int)) = true := fun h => by rw [hx h]; simp
      clear hm' hx
      cases cf'
      · clear hx2
        go_wp2_with fail
        go_roundw
        case rel => exact ⟨k + 1, ch, pos', hf', false, b', by omega, by go_num, by go_num, rfl, rfl, H3.out, HM.out, hp2, by omega, by omega, B3.out⟩
        case measure => simp [intOf]; omega
      · have hx3 := hx2 rfl
        clear hx2
        go_wp2_with fail
        go_roundw
        case rel => exact ⟨k + 1, ch + 1, pos', hf', true, b', by omega, by go_num, by go_num, rfl, by go_num, H3.out, HM.out, hp2, by omega, by omega, B3.out⟩
        case measure => simp [intOf]; omega

set_option maxRecDepth 100000 in
theorem law_marks (fl op cl : Int) (s : ByteArray) (w : World) (hfl : 0 ≤ fl ∧ fl ≤ 255) (hop : 0 ≤ op ∧ op ≤ 255) (hcl : 0 ≤ cl ∧ cl ≤ 255) (hs : s.size ≤ maxLen) :
    Calls Try.prog 4 #[.int .u8 fl, .int .u8 op, .int .u8 cl, .string s] w fun e w' => e = .returned (.bool true) ∧ Below w.heap.size w w' := by
  have hm : s.size ≤ 9223372036854775807 := by unfold maxLen at hs; omega
  obtain ⟨hf0, hf1⟩ := hfl
  obtain ⟨ho0, ho1⟩ := hop
  obtain ⟨hc0, hc1⟩ := hcl
  obtain ⟨F, rfl⟩ := Int.eq_ofNat_of_zero_le hf0
  obtain ⟨O, rfl⟩ := Int.eq_ofNat_of_zero_le ho0
  obtain ⟨C, rfl⟩ := Int.eq_ofNat_of_zero_le hc0
  by_cases hG : s.size ≤ 65536
  · by_cases hoc : O = C
    · subst hoc
      have e1 : ((O : Int) == (O : Int)) = true := by simp
      clear hf0 hf1 ho0 ho1 hc0 hc1
      go_enter Try.func4, Try.ntmps4
      go_wp2_with (go_at_call 16; go_in)
      all_goals (go_ret; exact ⟨rfl, Below.refl _ _⟩)
    have e1 : ((O : Int) == (C : Int)) = false := by simp <;> omega
    by_cases hof : O = F
    · subst hof
      have e2 : ((O : Int) == (O : Int)) = true := by simp
      clear hf0 hf1 ho0 ho1 hc0 hc1 hoc
      go_enter Try.func4, Try.ntmps4
      go_wp2_with (go_at_call 16; go_in)
      all_goals (go_ret; exact ⟨rfl, Below.refl _ _⟩)
    have e2 : ((O : Int) == (F : Int)) = false := by simp <;> omega
    by_cases hcf : C = F
    · subst hcf
      have e3 : ((C : Int) == (C : Int)) = true := by simp
      clear hf0 hf1 ho0 ho1 hc0 hc1 hoc hof
      go_enter Try.func4, Try.ntmps4
      go_wp2_with (go_at_call 16; go_in)
      all_goals (go_ret; exact ⟨rfl, Below.refl _ _⟩)
    exact marks_main F O C s w (by omega) (by omega) (by omega) hG hoc hof hcf
  · have hG' : 65536 < s.size := by omega
    clear hG
    go_enter Try.func4, Try.ntmps4
    go_wp2_with (go_at_call 16; go_in)
    all_goals (go_ret; exact ⟨rfl, Below.refl _ _⟩)
end Go.Proofs.Ytmlhjgledpglhaa
