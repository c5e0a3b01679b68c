/-
  The law: what Next hands out is the greedy unescape, and its buffer holds one flag an escape.
-/
import Derived.Test.YtmlhjgledpglhaaPass
namespace Go.Proofs.Ytmlhjgledpglhaa
open Go.RowKit
set_option linter.unusedVariables false

set_option maxHeartbeats 1000000 in
set_option maxRecDepth 100000 in
theorem law_pass (fl : Int) (s : ByteArray) (w : World) (hfl : 0 ≤ fl ∧ fl ≤ 255) (hs : s.size ≤ maxLen) :
    Calls Try.prog 12 #[.int .u8 fl, .string s] w fun e w' => e = .returned (.bool true) ∧ Below w.heap.size w w' := by
  have hm : s.size ≤ 9223372036854775807 := by unfold maxLen at hs; omega
  obtain ⟨hf0, hf1⟩ := hfl
  obtain ⟨F, rfl⟩ := Int.eq_ofNat_of_zero_le hf0
  have hF : F < 256 := by omega
  by_cases hG : s.size ≤ 65536
  · have hmk : ∀ W : World, (Instr.makeSlice 27 (.int .i64 0) (.int .i64 (s.size : Int))).run Try.prog W = .ok (.slice (some ⟨W.heap.size, 0, none⟩) 0 s.size) (W.alloc (.cells (madeCells #[.int .u8 0] s.size) 5)) :=
      fun W => run_make_cap 27 5 (.int .u8 0) 1 Try.underlying27 info5 rfl s.size (by omega) (by omega) W
    obtain ⟨i1', hi1, hz1, hs1, hb1⟩ := info_parts info5
    have HL := Lib.hid (bs_length s)
    clear hf0 hf1
    go_enter Try.func12, Try.ntmps12
    go_wp2_with (go_at_call 35; go_in)
    refine (newScan_c F _ _ s w).mono ?_; rintro e w1 ⟨f, rfl, b1, hfl, hfg, g1, cap1, hblk, hown⟩
    have HB := Lib.hid hblk
    have HO := Lib.hid hown
    have L1 := Lib.hid b1
    clear b1 hblk hown
    go_wp2_with fail
    clear hmk
    have g1l := (HO.out.lt g1 rfl).2
    have bA : Below w1.heap.size w1 (w1.alloc (.cells (madeCells #[.int .u8 0] s.size) 5)) := (Below.refl _ _).alloc (Nat.le_refl _) _
    have S0 : Hid (Scan (w1.alloc (.cells (madeCells #[.int .u8 0] s.size) 5)) w.heap.size (w1.heap.size, (w1.alloc (.cells (madeCells #[.int .u8 0] s.size) 5)).heap[w1.heap.size]?) f F { data := #[] } { data := #[] } s [] 0 false false) :=
      ⟨⟨g1, cap1, HB.out.alloc _, HO.out.alloc _, by show w1.heap.size ≠ g1; omega⟩, hfg, rfl, by show w1.heap.size ≠ f; omega, by simp⟩
    have R0 := Lib.hid (own_made (base := w.heap.size) w1 5 (.int .u8 0) s.size rfl L1.out.size (by unfold maxLen; omega))
    have L2 : Hid (Below w.heap.size w (w1.alloc (.cells (madeCells #[.int .u8 0] s.size) 5))) := L1.out.trans (bA.mono L1.out.size)
    clear bA
    generalize w1.alloc (.cells (madeCells #[.int .u8 0] s.size) 5) = w2 at *
    generalize hg0 : w1.heap.size = g0 at *
    clear hg0
    go_loopw [6, 7, 8] (fun o dn i wr => ∃ (k pos q g cap : Nat) (out : List Nat) (hf cf : Bool), k ≤ s.size + 1 ∧ i = .int .i64 k ∧ dn = .bool false ∧ o = .slice (some ⟨g, 0, none⟩) out.length cap ∧
      Hid (Scan wr w.heap.size (g, wr.heap[g]?) f F { data := #[] } { data := #[] } s (List.replicate q (.int .u8 F)) pos hf cf) ∧ Hid (wr.ownsRow w.heap.size 5 1 (.slice (some ⟨g, 0, none⟩) out.length cap) out.length (u8s out)) ∧
      Hid (out ++ (une F ((bs s).drop pos)).1 = (une F (bs s)).1) ∧ Hid (q + (une F ((bs s).drop pos)).2 = (une F (bs s)).2) ∧ out.length = k ∧ k ≤ pos ∧ pos ≤ s.size ∧ Hid (Below w.heap.size w wr)) (fun _ _ i _ => s.size + 2 - (intOf i).toNat)
    case atStart => exact ⟨0, 0, 0, g0, s.size, [], false, false, by omega, rfl, rfl, rfl, S0.out, R0.out, Lib.hid rfl, Lib.hid (by simp), rfl, Nat.le_refl _, Nat.zero_le _, L2.out⟩
    case round =>
      obtain ⟨k, pos, q, g, cap, out, hf, cf, hk, rfl, rfl, rfl, hSc, hRow, hO, hQ, hol, hkp, hps, hBel⟩ := hrel
      have i1 : (k : Int) ≤ (s.size : Int) := by omega
      have hqs : q ≤ s.size := by have h1 := une_le (fl := F) (bs s); have h2 := hQ.out; rw [HL.out] at h1; omega
      have hol1 : out.length ≤ 65536 := by omega
      have HOL := Lib.hid hol
      clear hol
      go_wp2_with fail
      refine (next_c (s.size - pos) wr w.heap.size _ f F _ _ s _ pos hf cf hSc.out (by omega) (by show 0 ≤ 1048576; omega) (by show 0 ≤ 1048576; omega) hps (Nat.le_refl _) (by rw [List.length_replicate]; omega)).mono ?_
      rintro e w3 ⟨c, eo, pos', hf', cf', buf', rfl, hN, h3, b3⟩
      obtain ⟨q2, hb2, hp2, hr⟩ := nx_une hN (by rw [HL.out]; exact hps)
      rw [List.replicate_append_replicate] at hb2
      subst hb2
      rw [HL.out] at hp2
      have R3 := Lib.hid (own_guest (w' := w3) hRow.out h3.guest.1)
      have B3 := Lib.hid (hBel.out.trans b3)
      have gl3 := (R3.out.lt g rfl)
      have f3 := h3.guest.2.1
      have H3 := Lib.hid h3
      clear hN h3 b3
      rcases hr with ⟨rfl, hpe, hU⟩ | ⟨rfl, hlt, hU⟩
      · rw [HL.out] at hpe
        subst hpe
        obtain ⟨c0, c1, c2, c4, c5, c6, c7, c8, _, _, _⟩ := H3.out.cells
        obtain ⟨gb, capb, hblk, hbown, hbg⟩ := H3.out.ex
        have cb : w3.cell? ⟨f, 3, none⟩ = some (.slice (some ⟨gb, 0, none⟩) (List.replicate (q + q2) (Value.int .u8 (F : Int))).length capb) := by rw [hblk.cell]; rfl
        have BF := Lib.hid (own_arg hbown)
        have fl3 := hblk.lt
        have hO1 : Hid (out = (une F (bs s)).1) := Lib.hid (by have := hO.out; rw [hU] at this; simpa using this)
        have hQ1 : Hid (q + q2 = (une F (bs s)).2) := Lib.hid (by have := hQ.out; rw [hU] at this; simpa using this)
        have hq2 : q + q2 ≤ s.size := by have h1 := une_le (fl := F) (bs s); have h2 := hQ1.out; rw [HL.out] at h1; omega
        have AO := Lib.hid (own_arg R3.out)
        clear hblk hbown hU
        have hfin : ((s.size : Int) == (s.size : Int)) = true := by simp
        go_wp2_with fail
        refine (unescape_c F s w3 (by omega) hF).mono ?_; rintro e w5 ⟨g5, cap5, rfl, a5, b5⟩
        rw [← hO1.out] at a5 ⊢
        rw [← hQ1.out]
        rw [List.length_replicate] at cb
        generalize hn : q + q2 = n2 at *
        clear hn
        have A5 := Lib.hid a5
        have AO5 := Lib.hid (AO.out.below b5)
        have BF5 := Lib.hid (BF.out.below b5)
        have B5 : Hid (Below w.heap.size w w5) := B3.out.trans (b5.mono B3.out.size)
        have cb5 := (b5.cell (p := ⟨f, 3, none⟩) (by exact fl3)).trans cb
        clear a5 b5 cb hfin
        go_wp2_with fail
        refine (eqBytes_c _ _ _ _ _ (out.map Int.ofNat) _ (by omega) (by rw [List.map_map]; exact AO5.out) (by rw [List.map_map]; exact A5.out)).mono ?_; rintro e w' ⟨rfl, q5, rfl⟩
        have hfin2 : ((n2 : Int) == (n2 : Int)) = true := by simp
        go_wp2_with (go_at_call 19; go_in)
        go_loopw [14] (fun i wr => ∃ j : Nat, j ≤ n2 ∧ i = .int .i64 j ∧ wr = w5.drewN q5) (fun i _ => n2 - (intOf i).toNat)
        case atStart => exact ⟨0, Nat.zero_le _, rfl, rfl⟩
        case round =>
          obtain ⟨j, hj, rfl, rfl⟩ := hrel
          by_cases hlt2 : j < n2
          · obtain ⟨b6, o6, e6, hb6, hc6⟩ := BF5.out.2.2.2.2 (by rw [List.length_replicate]; omega)
            obtain ⟨rfl, rfl⟩ : gb = b6 ∧ 0 = o6 := by simpa using e6
            have cj : w5.cell? ⟨gb, j, none⟩ = some (.int .u8 (F : Int)) := by have := hc6 j (.int .u8 (F : Int)) (by rw [List.getElem?_replicate, if_pos hlt2]); simpa using this
            have i0 : (0 : Int) ≤ (j : Int) := by omega
            have i2 : (j : Int) < (n2 : Int) := by omega
            have hfin3 : ((F : Int) == (F : Int)) = true := by simp
            clear hc6 e6
            go_wp2_with fail
            go_roundw
            case rel => exact ⟨j + 1, by omega, by go_num, by first | rfl | trivial⟩
            case measure => simp [intOf]; omega
          · obtain rfl : j = n2 := by omega
            go_wp2_with fail
            go_ret
            exact ⟨rfl, below_drewN B5.out _⟩
      · have HU := Lib.hid hU
        clear hU
        have hws : w.heap.size ≤ w3.heap.size := B3.out.size
        go_wp2_with (at_builtin; go_must (refine wpList_append_lies _ rfl (.tmp 40) (.tmp 42) _ rfl w.heap.size 5 i1' _ 1 1 Try.underlying27 hi1 hz1 hs1 hb1 rfl (by omega) (.slice (some ⟨g, 0, none⟩) out.length cap) out.length (u8s out) rfl (R3.out.alloc _) ⟨w3.heap.size, 0, none⟩ 1 1 [.int .u8 (c : Int)] rfl rfl (World.news_of_block (cs := #[.int .u8 (c : Int)]) (t := 5) (fr := (0, 0)) (heap_alloc_new w3 _)) (by simp [Value.oneCell']) (by omega) (by unfold maxLen; omega) (by omega) (by simp; omega) (w3.heap.size + 1) (by simp) ?_))
        intro gg cap' w4 hown4 hgrow4 hat4 hlt4
        have hS3 := (H3.out.turn (g' := g) (w' := w3.alloc (.cells #[.int .u8 (c : Int)] 5)) ⟨rfl, rfl, rfl, by simp, fun b hb _ => Below.heap_alloc _ _ _ hb⟩ (.inl rfl) (by simp; omega))
        have ht : gg = g ∨ w3.heap.size + 1 ≤ gg := by
          rcases hat4 with h | h
          · left
            have : g = gg := by simpa [Value.ownBlock] using h
            exact this.symm
          · right
            omega
        have hS4 := hS3.turn (g' := gg) (by simpa [Value.ownBlock] using hgrow4) (by simpa using ht) hlt4
        have H4 := Lib.hid hS4
        have R4 := Lib.hid hown4
        have B4 : Hid (Below w.heap.size w w4) := (B3.out.alloc hws _).grown hgrow4 (by simp; omega) (fun j hj => by simp [Value.ownBlock] at hj; omega)
        clear hown4 hgrow4 hat4 hS3 hS4
        go_wp2_with fail
        go_roundw
        case rel => exact ⟨k + 1, pos', q + q2, gg, cap', out ++ [c], hf', cf', by omega, by go_num, rfl, by rw [List.length_append]; rfl, H4.out, Lib.hid (by rw [List.length_append]; unfold u8s; rw [List.map_append]; exact R4.out),
          Lib.hid (by have := hO.out; rw [HU.out] at this; simpa using this), Lib.hid (by have := hQ.out; rw [HU.out] at this; simp at this; omega), by rw [List.length_append, HOL.out]; rfl, by omega, hp2, B4.out⟩
        case measure => simp [intOf]; omega
  · have hG' : 65536 < s.size := by omega
    clear hG
    go_enter Try.func12, Try.ntmps12
    go_wp2_with (go_at_call 35; go_in)
    all_goals (go_ret; exact ⟨rfl, Below.refl _ _⟩)
end Go.Proofs.Ytmlhjgledpglhaa
