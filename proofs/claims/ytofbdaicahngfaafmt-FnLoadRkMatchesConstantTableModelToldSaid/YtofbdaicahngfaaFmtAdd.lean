/-
  The walk through codeStore.Add: the instruction and the line come on top of the two stacks.
-/
import Derived.Test.YtofbdaicahngfaaFmtStore
import Derived.Deep.DeepCutAuto
namespace Go.Proofs.YtofbdaicahngfaaFmt
open Go.RowKit
set_option linter.unusedVariables false

theorem prefix_set {S cs : List Int} {k : Nat} {x : Int} (h : S <+: cs) (hk : S.length = k) (hlt : k < cs.length) : S ++ [x] <+: cs.set k x := by
  obtain ⟨t, rfl⟩ := h
  subst hk
  rcases t with _ | ⟨y, t⟩
  · simp at hlt
  · exact ⟨t, by simp⟩

theorem prefix_snoc {S cs : List Int} {x : Int} (h : S <+: cs) (hl : S.length = cs.length) : S ++ [x] <+: cs ++ [x] := by
  rw [h.eq_of_length hl]
  exact List.prefix_rfl

set_option maxHeartbeats 2000000 in
set_option maxRecDepth 100000 in
theorem add_c (w : World) (B d : Nat) (S L : List Int) (x l : Int) (h : Store w B d S L) (hmax : S.length < 1048576) :
    Calls Tryf.prog 28 #[.pointer (some ⟨d, 0, none⟩), .int .u32 x, .int .i64 l] w fun e w' => e = .returned (.tuple #[]) ∧ Store w' B d (S ++ [x]) (L ++ [l]) ∧ Below B w w' ∧ Far w w' d := by
  obtain ⟨g1, c1, g2, c2, cs, ls, hB, hSL, hcl, hS, hL, hm, hblk, ho1, ho2⟩ := h
  have hle := hS.length_le
  have p0 : w.cell? ⟨d, 0, none⟩ = some (.slice (some ⟨g1, 0, none⟩) cs.length c1) := by rw [hblk.cell]; rfl
  have p1 : w.cell? ⟨d, 1, none⟩ = some (.slice (some ⟨g2, 0, none⟩) cs.length c2) := by rw [hblk.cell]; rfl
  have p2 : w.cell? ⟨d, 2, none⟩ = some (.int .i64 S.length) := by rw [hblk.cell]; rfl
  have f0 := hblk.frozen 0
  have f1 := hblk.frozen 1
  have f2 := hblk.frozen 2
  have HB := Lib.hid hblk
  have H1 := Lib.hid ho1
  have H2 := Lib.hid ho2
  have HSL := Lib.hid hSL
  have HCL := Lib.hid hcl
  have HS := Lib.hid hS
  have HL := Lib.hid hL
  clear hblk ho1 ho2 hSL hcl hS hL
  generalize hk0 : S.length = k at *
  generalize hn0 : cs.length = n at *
  have HK := Lib.hid hk0
  have HN := Lib.hid hn0
  clear hk0 hn0
  have i0 : (0 : Int) ≤ (k : Int) := by omega
  have n1 : g1 ≠ d := fun e => own_blk_ne H1.out HB.out (by decide) (by rw [e]; rfl)
  have n2 : g2 ≠ d := fun e => own_blk_ne H2.out HB.out (by decide) (by rw [e]; rfl)
  have n3 : g1 ≠ g2 := fun e => by rcases own_own_ne H1.out H2.out (by decide) with h | h; cases h; exact h (by rw [e]; rfl)
  rcases Nat.lt_or_ge k n with hlt | hge
  · have hn : ¬ (n : Int) ≤ 0 := by omega
    have hk : ((k : Int) == (n : Int)) = false := by simp; omega
    have i1 : (k : Int) < (n : Int) := by omega
    obtain ⟨y, hy⟩ : ∃ y, cs[k]? = some y := ⟨cs[k]'(by rw [HN.out]; exact hlt), List.getElem?_eq_getElem _⟩
    obtain ⟨z, hz⟩ : ∃ z, ls[k]? = some z := ⟨ls[k]'(by rw [← HCL.out]; exact hlt), List.getElem?_eq_getElem _⟩
    have q1 : w.cell? ⟨g1, k, none⟩ = some (.int .u32 y) := by rw [H1.out.cellAt k (by omega)]; simp [hy]
    have q2 : w.cell? ⟨g2, k, none⟩ = some (.int .i64 z) := by rw [H2.out.cellAt k (by omega)]; simp [hz]
    have r1 := H1.out.frozenAt k
    have r2 := H2.out.frozenAt k
    clear hy hz
    go_enter Tryf.func28, Tryf.ntmps28
    go_wp2
    go_region
    go_wp2
    go_region
    go_wp2
    go_end0
    refine ⟨rfl, ?_, ?_, ?_⟩
    · refine ⟨g1, c1, g2, c2, cs.set k x, ls.set k l, hB, by simp [HK.out, HSL.out], by simp [HN.out, HCL.out], prefix_set HS.out HK.out (by rw [HN.out]; exact hlt), prefix_set HL.out HSL.out.symm (by rw [← HCL.out]; exact hlt), by simp [HN.out, hm], ?_, ?_, ?_⟩
      · have := ((HB.out.far (p := ⟨g1, k, none⟩) (Ne.symm n1) (.int .u32 x)).far (p := ⟨g2, k, none⟩) (Ne.symm n2) (.int .i64 l)).set_ 2 (.int .i64 ((k : Int) + 1))
        rw [List.length_set, HN.out, List.length_append, HK.out]
        exact this
      · rw [List.length_set, HN.out]
        have e := ((H1.out.stored k (.int .u32 x)))
        rw [← List.map_set] at e
        exact own_set_blk (ownsRow_setCell_other e.1 (a := ⟨g2, k, none⟩) (by simpa [Value.ownBlock] using n3) _) ((HB.out.far (p := ⟨g1, k, none⟩) (Ne.symm n1) (.int .u32 x)).far (p := ⟨g2, k, none⟩) (Ne.symm n2) (.int .i64 l)) (by decide) _ _
      · rw [List.length_set, HN.out]
        have e := ((ownsRow_setCell_other H2.out (a := ⟨g1, k, none⟩) (by simpa [Value.ownBlock] using (Ne.symm n3)) (.int .u32 x)).stored k (.int .i64 l))
        rw [← List.map_set] at e
        exact own_set_blk e.1 ((HB.out.far (p := ⟨g1, k, none⟩) (Ne.symm n1) (.int .u32 x)).far (p := ⟨g2, k, none⟩) (Ne.symm n2) (.int .i64 l)) (by decide) _ _
    · have b1 := (H1.out.lt g1 rfl).1
      have b2 := (H2.out.lt g2 rfl).1
      repeat (first | exact Below.refl _ _ | refine Below.drew ?_ | refine Below.setCell ?_ (by first | exact hB | exact b1 | exact b2) _)
    · have hb3 := ((HB.out.far (p := ⟨g1, k, none⟩) (Ne.symm n1) (.int .u32 x)).far (p := ⟨g2, k, none⟩) (Ne.symm n2) (.int .i64 l)).set_ 2 (.int .i64 ((k : Int) + 1))
      refine far_put p0 p1 (by simp [World.setCell, World.drew]) (fun b hb h1 h2 h3 => ?_) (by exact (hb3.cell 0).trans rfl) (by exact (hb3.cell 1).trans rfl) (.inl rfl) (.inl rfl)
      exact (Below.heap_setCell _ _ _ _ h1).trans ((Below.heap_setCell _ _ _ _ h3).trans (Below.heap_setCell _ _ _ _ h2))
  · obtain rfl : k = n := by omega
    obtain ⟨i1, hi1, hz1, hs1, hb1⟩ := info_parts infoU
    obtain ⟨i2, hi2, hz2, hs2, hb2⟩ := info_parts infoI
    have hbase : B ≤ w.heap.size := Nat.le_trans hB (Nat.le_of_lt HB.out.lt)
    rcases Nat.eq_zero_or_pos k with hk0 | hk0
    · subst hk0
      go_enter Tryf.func28, Tryf.ntmps28
      go_upto_region 2 with fail
      go_wp2_with (at_builtin; go_must (refine wpList_append_lies _ rfl (.tmp 26) (.tmp 28) _ rfl B 31 i1 _ 1 4 Tryf.underlying27 hi1 hz1 hs1 hb1 rfl (by omega) (.slice (some ⟨g1, 0, none⟩) _ c1) _ (cs.map (Value.int .u32)) rfl (H1.out.alloc _) ⟨w.heap.size, 0, none⟩ 1 1 [.int .u32 x] rfl rfl (World.news_of_block (cs := #[.int .u32 x]) (t := 31) (fr := (0, 0)) (heap_alloc_new w _)) (by simp [Value.oneCell']) (by omega) (by unfold maxLen; omega) (by omega) (by simp; omega) (w.heap.size + 1) (by simp) ?_))
      intro gg cap w1 hown1 hgrow1 hat1 hlt1
      have HB1 := Lib.hid ((HB.out.alloc (.cells #[.int .u32 x] 31)).grown hgrow1 (by simpa [Value.ownBlock] using Ne.symm n1))
      have P0 := HB1.out.cell 0
      have P1 := HB1.out.cell 1
      have P2 := HB1.out.cell 2
      have F0 := HB1.out.frozen 0
      have F1 := HB1.out.frozen 1
      have F2 := HB1.out.frozen 2
      simp only [List.getElem?_toArray, List.getElem?_cons_zero, List.getElem?_cons_succ] at P0 P1 P2
      have G2 := Lib.hid (own_set_blk ((H2.out.alloc (.cells #[.int .u32 x] 31)).kept hgrow1 (own_own_ne H2.out H1.out (by decide))) HB1.out (by decide) 0 (.slice (some ⟨gg, 0, none⟩) 1 cap))
      have HW1 : Hid (w.heap.size ≤ w1.heap.size) := by have := hgrow1.size; simp at this; show _ ≤ _; omega
      have HO1 := Lib.hid hown1
      have HG1 := Lib.hid hgrow1
      have HA1 := Lib.hid hat1
      have hb1' : B ≤ w1.heap.size := Nat.le_trans hbase HW1.out
      clear hown1 hgrow1 hat1
      go_wp2_with (at_builtin; go_must (refine wpList_append_lies _ rfl (.tmp 36) (.tmp 38) _ rfl B 3 i2 _ 1 8 Tryf.underlying39 hi2 hz2 hs2 hb2 rfl (by omega) (.slice (some ⟨g2, 0, none⟩) _ c2) _ (ls.map (Value.int .i64)) rfl (G2.out.alloc _) ⟨w1.heap.size, 0, none⟩ 1 1 [.int .i64 l] rfl rfl (World.news_of_block (cs := #[.int .i64 l]) (t := 3) (fr := (0, 0)) (Blk.new_at _ _ _ (by simp))) (by simp [Value.oneCell']) (by omega) (by unfold maxLen; omega) (by omega) (by simp; omega) (w1.heap.size + 1) (by simp) ?_))
      intro gg2 cap2 w2 hown2 hgrow2 hat2 hlt2
      have HB2 := Lib.hid (((HB1.out.set_ 0 (.slice (some ⟨gg, 0, none⟩) 1 cap)).alloc (.cells #[.int .i64 l] 3)).grown hgrow2 (by simpa [Value.ownBlock] using Ne.symm n2))
      have Q0 := HB2.out.cell 0
      have Q1 := HB2.out.cell 1
      have Q2 := HB2.out.cell 2
      have E0 := HB2.out.frozen 0
      have E1 := HB2.out.frozen 1
      have E2 := HB2.out.frozen 2
      simp at Q0 Q1 Q2
      have K0 := Lib.hid (own_set_blk HO1.out HB1.out (by decide) 0 (.slice (some ⟨gg, 0, none⟩) 1 cap))
      have K1 := Lib.hid ((K0.out.alloc (.cells #[.int .i64 l] 3)).kept hgrow2 (own_own_ne K0.out G2.out (by decide)))
      have HO2 := Lib.hid hown2
      have HA2 := Lib.hid hat2
      have HG2 := Lib.hid hgrow2
      clear hown2 hgrow2 hat2
      go_wp2
      go_end0
      have b1 := (H1.out.lt g1 rfl).1
      have b2 := (H2.out.lt g2 rfl).1
      refine ⟨rfl, ⟨gg, cap, gg2, cap2, cs ++ [x], ls ++ [l], hB, by simp [HK.out, HSL.out], by simp [HN.out, HCL.out], prefix_snoc HS.out (by rw [HK.out, HN.out]), prefix_snoc HL.out (by rw [← HSL.out, HCL.out]), by simp [HN.out] <;> omega, ?_, ?_, ?_⟩, ?_, ?_⟩
      · have := (HB2.out.set_ 1 (.slice (some ⟨gg2, 0, none⟩) 1 cap2)).set_ 2 (.int .i64 1)
        rw [List.length_append, List.length_append, HN.out, HK.out]
        exact this
      · rw [List.length_append, HN.out, List.map_append]
        exact own_set_blk (own_set_blk K1.out HB2.out (by decide) 1 _) (HB2.out.set_ 1 _) (by decide) 2 _
      · rw [List.length_append, HN.out, List.map_append]
        exact own_set_blk (own_set_blk HO2.out HB2.out (by decide) 1 _) (HB2.out.set_ 1 _) (by decide) 2 _
      · exact (((((((Below.refl B w).alloc hbase _).grown HG1.out (by simp <;> omega) (fun j hj => by simp [Value.ownBlock] at hj; omega)).setCell hB _).alloc (by simp; exact hb1') _).grown HG2.out (by simp <;> omega) (fun j hj => by simp [Value.ownBlock] at hj; omega)).setCell hB _).setCell hB _
      · have hb3 := (HB2.out.set_ 1 (.slice (some ⟨gg2, 0, none⟩) 1 cap2)).set_ 2 (.int .i64 1)
        have z1 := HG1.out.size
        have z2 := HG2.out.size
        simp at z1 z2
        have o1 := HA1.out
        have o2 := HA2.out
        simp [Value.ownBlock] at o1 o2
        refine far_put p0 p1 (by simp [World.setCell]; omega) (fun b hb h1 h2 h3 => ?_) ((hb3.cell 0).trans rfl) ((hb3.cell 1).trans rfl) (by omega) (by omega)
        rw [Below.heap_setCell _ _ _ _ h1, Below.heap_setCell _ _ _ _ h1, HG2.out.block b (by simp; omega) (by simpa [Value.ownBlock] using h3), Below.heap_alloc _ _ _ (by simp; omega), Below.heap_setCell _ _ _ _ h1, HG1.out.block b (by simp; omega) (by simpa [Value.ownBlock] using h2), Below.heap_alloc _ _ _ hb]
    · have hn : ¬ (k : Int) ≤ 0 := by omega
      go_enter Tryf.func28, Tryf.ntmps28
      go_upto_region 2 with fail
      go_wp2_with (at_builtin; go_must (refine wpList_append_lies _ rfl (.tmp 26) (.tmp 28) _ rfl B 31 i1 _ 1 4 Tryf.underlying27 hi1 hz1 hs1 hb1 rfl (by omega) (.slice (some ⟨g1, 0, none⟩) _ c1) _ (cs.map (Value.int .u32)) rfl (H1.out.alloc _) ⟨w.heap.size, 0, none⟩ 1 1 [.int .u32 x] rfl rfl (World.news_of_block (cs := #[.int .u32 x]) (t := 31) (fr := (0, 0)) (heap_alloc_new w _)) (by simp [Value.oneCell']) (by omega) (by unfold maxLen; omega) (by omega) (by simp; omega) (w.heap.size + 1) (by simp) ?_))
      intro gg cap w1 hown1 hgrow1 hat1 hlt1
      have HB1 := Lib.hid ((HB.out.alloc (.cells #[.int .u32 x] 31)).grown hgrow1 (by simpa [Value.ownBlock] using Ne.symm n1))
      have P0 := HB1.out.cell 0
      have P1 := HB1.out.cell 1
      have P2 := HB1.out.cell 2
      have F0 := HB1.out.frozen 0
      have F1 := HB1.out.frozen 1
      have F2 := HB1.out.frozen 2
      simp only [List.getElem?_toArray, List.getElem?_cons_zero, List.getElem?_cons_succ] at P0 P1 P2
      have G2 := Lib.hid (own_set_blk ((H2.out.alloc (.cells #[.int .u32 x] 31)).kept hgrow1 (own_own_ne H2.out H1.out (by decide))) HB1.out (by decide) 0 (.slice (some ⟨gg, 0, none⟩) (k + 1) cap))
      have HW1 : Hid (w.heap.size ≤ w1.heap.size) := by have := hgrow1.size; simp at this; show _ ≤ _; omega
      have HO1 := Lib.hid hown1
      have HG1 := Lib.hid hgrow1
      have HA1 := Lib.hid hat1
      have hb1' : B ≤ w1.heap.size := Nat.le_trans hbase HW1.out
      clear hown1 hgrow1 hat1
      go_wp2_with (at_builtin; go_must (refine wpList_append_lies _ rfl (.tmp 36) (.tmp 38) _ rfl B 3 i2 _ 1 8 Tryf.underlying39 hi2 hz2 hs2 hb2 rfl (by omega) (.slice (some ⟨g2, 0, none⟩) _ c2) _ (ls.map (Value.int .i64)) rfl (G2.out.alloc _) ⟨w1.heap.size, 0, none⟩ 1 1 [.int .i64 l] rfl rfl (World.news_of_block (cs := #[.int .i64 l]) (t := 3) (fr := (0, 0)) (Blk.new_at _ _ _ (by simp))) (by simp [Value.oneCell']) (by omega) (by unfold maxLen; omega) (by omega) (by simp; omega) (w1.heap.size + 1) (by simp) ?_))
      intro gg2 cap2 w2 hown2 hgrow2 hat2 hlt2
      have HB2 := Lib.hid (((HB1.out.set_ 0 (.slice (some ⟨gg, 0, none⟩) (k + 1) cap)).alloc (.cells #[.int .i64 l] 3)).grown hgrow2 (by simpa [Value.ownBlock] using Ne.symm n2))
      have Q0 := HB2.out.cell 0
      have Q1 := HB2.out.cell 1
      have Q2 := HB2.out.cell 2
      have E0 := HB2.out.frozen 0
      have E1 := HB2.out.frozen 1
      have E2 := HB2.out.frozen 2
      simp at Q0 Q1 Q2
      have K0 := Lib.hid (own_set_blk HO1.out HB1.out (by decide) 0 (.slice (some ⟨gg, 0, none⟩) (k + 1) cap))
      have K1 := Lib.hid ((K0.out.alloc (.cells #[.int .i64 l] 3)).kept hgrow2 (own_own_ne K0.out G2.out (by decide)))
      have HO2 := Lib.hid hown2
      have HA2 := Lib.hid hat2
      have HG2 := Lib.hid hgrow2
      clear hown2 hgrow2 hat2
      go_wp2
      go_end0
      have b1 := (H1.out.lt g1 rfl).1
      have b2 := (H2.out.lt g2 rfl).1
      refine ⟨rfl, ⟨gg, cap, gg2, cap2, cs ++ [x], ls ++ [l], hB, by simp [HK.out, HSL.out], by simp [HN.out, HCL.out], prefix_snoc HS.out (by rw [HK.out, HN.out]), prefix_snoc HL.out (by rw [← HSL.out, HCL.out]), by simp [HN.out] <;> omega, ?_, ?_, ?_⟩, ?_, ?_⟩
      · have := (HB2.out.set_ 1 (.slice (some ⟨gg2, 0, none⟩) (k + 1) cap2)).set_ 2 (.int .i64 ((k : Int) + 1))
        rw [List.length_append, List.length_append, HN.out, HK.out]
        exact this
      · rw [List.length_append, HN.out, List.map_append]
        exact own_set_blk (own_set_blk K1.out HB2.out (by decide) 1 _) (HB2.out.set_ 1 _) (by decide) 2 _
      · rw [List.length_append, HN.out, List.map_append]
        exact own_set_blk (own_set_blk HO2.out HB2.out (by decide) 1 _) (HB2.out.set_ 1 _) (by decide) 2 _
      · exact (((((((Below.refl B w).alloc hbase _).grown HG1.out (by simp <;> omega) (fun j hj => by simp [Value.ownBlock] at hj; omega)).setCell hB _).alloc (by simp; exact hb1') _).grown HG2.out (by simp <;> omega) (fun j hj => by simp [Value.ownBlock] at hj; omega)).setCell hB _).setCell hB _
      · have hb3 := (HB2.out.set_ 1 (.slice (some ⟨gg2, 0, none⟩) (k + 1) cap2)).set_ 2 (.int .i64 ((k : Int) + 1))
        have z1 := HG1.out.size
        have z2 := HG2.out.size
        simp at z1 z2
        have o1 := HA1.out
        have o2 := HA2.out
        simp [Value.ownBlock] at o1 o2
        refine far_put p0 p1 (by simp [World.setCell]; omega) (fun b hb h1 h2 h3 => ?_) ((hb3.cell 0).trans rfl) ((hb3.cell 1).trans rfl) (by omega) (by omega)
        rw [Below.heap_setCell _ _ _ _ h1, Below.heap_setCell _ _ _ _ h1, HG2.out.block b (by simp; omega) (by simpa [Value.ownBlock] using h3), Below.heap_alloc _ _ _ (by simp; omega), Below.heap_setCell _ _ _ _ h1, HG1.out.block b (by simp; omega) (by simpa [Value.ownBlock] using h2), Below.heap_alloc _ _ _ hb]
end Go.Proofs.YtofbdaicahngfaaFmt
