/-
  The law: a new code block bears what it was made with, and has an empty label map of its own.
-/
import Derived.Test.YtofbdaicahngfaaAdd
namespace Go.Proofs.Ytofbdaicahngfaa
open Go.RowKit
set_option linter.unusedVariables false

theorem registerAny_c (w : World) (B p m : Nat) (off : Int) (s : ByteArray) (h : Pool w B p m off) (hm : m < 1048576) :
    Calls Try.prog 10 #[.pointer (some ⟨p, 0, none⟩), .string s] w fun e w' => (∃ v, e = .returned (.int .i64 v)) ∧ Pool w' B p (m + 1) off ∧ Below B w w' := by
  obtain ⟨g, c, xs, hB, hblk, hown, hmm⟩ := h
  obtain ⟨i1, hi1, hz1, hs1, hb1⟩ := info_parts info9
  have p0 : w.cell? ⟨p, 0, none⟩ = some (.slice (some ⟨g, 0, none⟩) m c) := by rw [hblk.cell]; rfl
  have p1 : w.cell? ⟨p, 1, none⟩ = some (.int .i64 off) := by rw [hblk.cell]; rfl
  have f0 := hblk.frozen 0
  have n1 : g ≠ p := fun e => own_blk_ne hown hblk (by decide) (by rw [e]; rfl)
  have hg := hown.lt g rfl
  have HB := Lib.hid hblk
  have HO := Lib.hid hown
  clear hblk hown
  go_enter Try.func10, Try.ntmps10
  go_wp2_with (first
    | (go_at_call 23; go_in)
    | (at_builtin; go_must (refine wpList_append_lies _ rfl (.tmp 9) (.tmp 11) _ rfl B 9 i1 _ 1 16 Try.underlying22 hi1 hz1 hs1 hb1 rfl (by omega) (.slice (some ⟨g, 0, none⟩) _ c) _ xs rfl (HO.out.alloc _) ⟨w.heap.size, 0, none⟩ 1 1 [.string s] rfl rfl (World.news_of_block (cs := #[.string s]) (t := 9) (fr := (0, 0)) (heap_alloc_new w _)) (by simp [Value.oneCell']) (by omega) (by unfold maxLen; omega) (by omega) (by simp; omega) (w.heap.size + 1) (by simp) ?_)))
  intro gg cap w1 hown1 hgrow1 hat1 hlt1
  have HB1 := Lib.hid ((HB.out.alloc (.cells #[.string s] 9)).grown hgrow1 (by simpa [Value.ownBlock] using Ne.symm n1))
  have P0 := HB1.out.cell 0
  have P1 := HB1.out.cell 1
  have F0 := HB1.out.frozen 0
  simp only [List.getElem?_toArray, List.getElem?_cons_zero, List.getElem?_cons_succ] at P0 P1
  have HO1 := Lib.hid hown1
  have HG1 := Lib.hid hgrow1
  clear hown1 hgrow1 hat1
  go_wp2_with fail
  go_quiet (fail)
  go_wp2_with fail
  go_ret
  refine ⟨⟨_, rfl⟩, ⟨gg, cap, xs ++ [.string s], hB, ?_, ?_, by omega⟩, ?_⟩
  · exact HB1.out.set_ 0 (.slice (some ⟨gg, 0, none⟩) (m + 1) cap)
  · exact own_set_blk HO1.out HB1.out (by decide) 0 _
  · exact below_drewN ((((Below.refl B w).alloc (by omega) _).grown HG1.out (by simp; omega) (fun j hj => by simp [Value.ownBlock] at hj; omega)).setCell hB _) _

theorem firstGoto_c (w : World) (d p : Nat) (bl fg : Int) (par : Option Addr) (mb : Nat) (h : CB w d p bl fg par mb) : Calls Try.prog 12 #[.pointer (some ⟨d, 0, none⟩)] w fun e w' => e = .returned (.int .i64 fg) ∧ w = w' := by
  have p7 := (Blk.cell h 7).trans rfl
  clear h
  go_enter Try.func12, Try.ntmps12
  go_wp2
  go_ret
  exact ⟨rfl, rfl⟩
theorem getNone_c (w : World) (d p : Nat) (bl fg : Int) (par : Option Addr) (mb : Nat) (q : ByteArray) (h : CB w d p bl fg par mb) (hl : LM w mb 0 0 (fun _ => 0)) (hq : q.size ≤ maxLen) :
    Calls Try.prog 14 #[.pointer (some ⟨d, 0, none⟩), .string q] w fun e w' => e = .returned (.pointer none) ∧ w = w' := getLabel_c w d p bl fg par mb 0 0 _ q h hl hq
theorem last0_c (w : World) (B p : Nat) (h : Pool w B p 0 0) : Calls Try.prog 15 #[.pointer (some ⟨p, 0, none⟩)] w fun e w' => e = .returned (.int .i64 0) ∧ ∃ q, w' = w.drewN q :=
  (lastIndex_c w B p 0 0 h (by decide) (by decide)).mono fun e w' ⟨h1, h2⟩ => ⟨by rw [h1]; rfl, h2⟩
theorem LM.other {w w' : World} {mb mb2 n s : Nat} {F : List UInt8 → Nat} (h : LM w mb n s F) (hg : w.grownBy w' (some mb2)) (hne : mb ≠ mb2) : LM w' mb n s F :=
  h.kept (hg.block mb h.lt (by simpa using hne))

set_option maxHeartbeats 2000000 in
set_option maxRecDepth 100000 in
theorem law_fresh (o0 b0 f0 : Int) (A1 : Option Addr) (n1 c1 : Nat) (rs : List ByteArray) (bb : Bool) (w : World) (r1 : -9223372036854775808 ≤ o0 ∧ o0 ≤ 9223372036854775807) (r2 : -9223372036854775808 ≤ b0 ∧ b0 ≤ 9223372036854775807) (r3 : -9223372036854775808 ≤ f0 ∧ f0 ≤ 9223372036854775807)
    (g1 : Arg w A1 n1 c1 (rs.map Value.string)) (q1 : ∀ z ∈ rs, z.size ≤ maxLen) :
    Calls Try.prog 3 #[.int .i64 o0, .int .i64 b0, .int .i64 f0, .slice A1 n1 c1, .bool bb] w fun e w' => e = .returned (.bool true) ∧ Below w.heap.size w w' := by
  have m1 : n1 ≤ 9223372036854775807 := by have h1 := g1.2.1; have h2 := g1.2.2.1; unfold maxLen at h2; omega
  have G1 := Lib.hid g1
  have R1 := Lib.hid q1
  clear g1 q1 r1 r2 r3
  go_enter Try.func3, Try.ntmps3
  go_wp2_with fail
  refine (bytes6_c o0 b0 f0 A1 n1 c1 bb rs w m1 G1.out R1.out).mono ?_; rintro e w' ⟨b, rfl, rfl⟩
  cases b
  · go_wp2_with fail
    go_ret
    exact ⟨rfl, Below.refl _ _⟩
  go_wp2_with fail
  refine (strOk_c A1 n1 c1 rs w m1 G1.out R1.out).mono ?_; rintro e w' ⟨b, rfl, rfl, hb1⟩
  cases b
  · go_wp2_with fail
    go_ret
    exact ⟨rfl, Below.refl _ _⟩
  obtain ⟨hn1, hsz⟩ := hb1 rfl
  have SZ := Lib.hid hsz
  clear hb1 hsz
  go_wp2_with fail
  refine (copy_str A1 n1 c1 rs w G1.out (by omega)).mono ?_; rintro e w1 ⟨A3, c3, rfl, a3, b1⟩
  have A3' := Lib.hid a3
  have B1 := Lib.hid b1
  clear a3 b1
  go_wp2_with fail
  refine (newPool_c o0 w1).mono ?_; rintro e w2 ⟨p, rfl, hp, b2⟩
  have P2 := Lib.hid hp
  have B2 := Lib.hid b2
  clear hp b2
  go_wp2_with fail
  go_loopw [12] (fun i wr => ∃ k : Nat, k ≤ n1 ∧ i = .int .i64 k ∧ Hid (Pool wr w1.heap.size p k o0) ∧ Hid (Below w1.heap.size w1 wr)) (fun i _ => n1 - (intOf i).toNat)
  case atStart => exact ⟨0, Nat.zero_le _, rfl, P2.out, B2.out⟩
  case round =>
    obtain ⟨k, hk, rfl, hP, hB⟩ := hrel
    by_cases hlt : k < n1
    · obtain ⟨x, hx⟩ : ∃ x, rs[k]? = some x := ⟨rs[k]'(by have := A3'.out.1; rw [List.length_map] at this; omega), List.getElem?_eq_getElem _⟩
      obtain ⟨bk, o1, rfl, _, hc1⟩ := (A3'.out.below hB.out).2.2.2.2 (by omega)
      have ck1 : wr.cell? ⟨bk, o1 + k, none⟩ = some (.string x) := hc1 k _ (by rw [List.getElem?_map, hx]; rfl)
      have i0 : (0 : Int) ≤ (k : Int) := by omega
      have i1 : (k : Int) < (n1 : Int) := by omega
      clear hx hc1
      go_wp2_with fail
      refine (registerAny_c wr w1.heap.size p k o0 x hP.out (by omega)).mono ?_; rintro e w5 ⟨⟨v, rfl⟩, hp5, b5⟩
      have P5 := Lib.hid hp5
      have B5 := Lib.hid (hB.out.trans b5)
      clear hp5 b5
      go_wp2_with fail
      go_roundw
      case rel => exact ⟨k + 1, by omega, by go_num, P5.out, B5.out⟩
      case measure => simp [intOf]; omega
    · obtain rfl : k = n1 := by omega
      clear P2 B2 hlt
      go_wp2_with fail
      refine (newPool_c 0 wr).mono ?_; rintro e w3 ⟨p0, rfl, hp0, b3⟩
      have P3 := Lib.hid hp0
      have B3 := Lib.hid (hB.out.trans (b3.mono hB.out.size))
      clear hp0 b3
      go_wp2_with fail
      refine (newCB_c w3 p0 0 0 none).mono ?_; rintro e w4 ⟨d0, mb0, rfl, hcb, hlm, b4, hd0, hmb0⟩
      have CR4 := Lib.hid hcb
      have LR4 := Lib.hid hlm
      have P4 := Lib.hid (P3.out.below b4)
      have B4 := Lib.hid (B3.out.trans (b4.mono B3.out.size))
      have lr4 := hlm.lt
      clear hcb hlm b4 hd0 hmb0
      obtain ⟨j52, info52j, _⟩ := Option.map_eq_some_iff.1 (show (Try.prog.info? 52).map (·.size) = some 2 by kernel_rfl)
      obtain ⟨j33, info33j, _⟩ := Option.map_eq_some_iff.1 (show (Try.prog.info? 33).map (·.size) = some 8 by kernel_rfl)
      obtain ⟨j42, info42j, _⟩ := Option.map_eq_some_iff.1 (show (Try.prog.info? 42).map (·.size) = some 5 by kernel_rfl)
      have nq26 := fun (W : World) (a : Addr) => Lib.run_neq_ptr_same (P := Try.prog) (w := W) a Try.underlying26 info52j
      have nq29 := fun (W : World) (a : Addr) => Lib.run_neq_ptr_same (P := Try.prog) (w := W) a Try.underlying29 info33j
      have nq35 := fun (W : World) (a : Addr) => Lib.run_neq_ptr_same (P := Try.prog) (w := W) a Try.underlying35 info42j
      clear info52j info33j info42j
      have eb : (b0 == b0) = true := by simp
      have ef : (f0 == f0) = true := by simp
      cases bb
      · go_wp2_with fail
        refine (newCB_c w4 p b0 f0 none).mono ?_; rintro e w5 ⟨d, mb, rfl, hcb, hlm, b5, hd, hmb⟩
        have CD := Lib.hid hcb
        have LD := Lib.hid hlm
        have CR := Lib.hid (show CB w5 d0 p0 0 0 none mb0 from Blk.below CR4.out b5 (Blk.lt CR4.out))
        have LR := Lib.hid (LR4.out.below b5)
        have P5 := Lib.hid (P4.out.below b5)
        have B5 := Lib.hid (B4.out.trans (b5.mono B4.out.size))
        have hmw := Nat.le_trans B4.out.size hmb
        have hne : mb0 ≠ mb := by omega
        have q0 := (Blk.cell hcb 0).trans rfl
        have q1 := (Blk.cell hcb 1).trans rfl
        have q2 := (Blk.cell hcb 2).trans rfl
        have q3 := (Blk.cell hcb 3).trans rfl
        have q4 := (Blk.cell hcb 4).trans rfl
        have q5 := (Blk.cell hcb 5).trans rfl
        have s0 := (Blk.cell CR.out 0).trans rfl
        have s1 := (Blk.cell CR.out 1).trans rfl
        have s2 := (Blk.cell CR.out 2).trans rfl
        have s3 := (Blk.cell CR.out 3).trans rfl
        have s4 := (Blk.cell CR.out 4).trans rfl
        have s5 := (Blk.cell CR.out 5).trans rfl
        clear hcb hlm b5 hd hmb CR4 LR4 P4
        go_wp2_with fail
        refine (firstGoto_c w5 d p b0 f0 _ mb CD.out).mono ?_; rintro e w' ⟨rfl, rfl⟩
        go_wp2_with fail
        refine (countLabel_c w5 d p b0 f0 _ mb 0 0 _ CD.out LD.out).mono ?_; rintro e w' ⟨rfl, rfl⟩
        go_wp2_with fail
        refine (getNone_c w5 d p b0 f0 _ mb ⟨#[]⟩ CD.out LD.out (by decide)).mono ?_; rintro e w' ⟨rfl, rfl⟩
        go_wp2_with fail
        go_loopw [17] (fun i wq => ∃ j : Nat, j ≤ k ∧ i = .int .i64 j ∧ wq = w5) (fun i _ => k - (intOf i).toNat)
        case atStart => exact ⟨0, Nat.zero_le _, rfl, rfl⟩
        case round =>
          obtain ⟨j, hj, rfl, rfl⟩ := hrel
          by_cases hlt : j < k
          · obtain ⟨x, hx⟩ : ∃ x, rs[j]? = some x := ⟨rs[j]'(by have := A3'.out.1; rw [List.length_map] at this; omega), List.getElem?_eq_getElem _⟩
            obtain ⟨bk, o1, rfl, _, hc1⟩ := (A3'.out.below B5.out).2.2.2.2 (by omega)
            have ck1 : wr.cell? ⟨bk, o1 + j, none⟩ = some (.string x) := hc1 j _ (by rw [List.getElem?_map, hx]; rfl)
            have i0 : (0 : Int) ≤ (j : Int) := by omega
            have i1 : (j : Int) < (k : Int) := by omega
            have xs : x.size ≤ maxLen := R1.out x (List.mem_of_getElem? hx)
            have XS := Lib.hid xs
            clear hx hc1 xs
            go_wp2_with fail
            refine (getNone_c wr d p b0 f0 _ mb x CD.out LD.out XS.out).mono ?_; rintro e w' ⟨rfl, rfl⟩
            go_wp2_with fail
            go_roundw
            case rel => exact ⟨j + 1, by omega, by go_num, by first | rfl | trivial⟩
            case measure => simp [intOf]; omega
          · obtain rfl : j = k := by omega
            clear hlt
            go_wp2_with fail
            refine (firstGoto_c wr d0 p0 0 0 _ mb0 CR.out).mono ?_; rintro e w' ⟨rfl, rfl⟩
            go_wp2_with fail
            refine (countLabel_c wr d0 p0 0 0 _ mb0 0 0 _ CR.out LR.out).mono ?_; rintro e w' ⟨rfl, rfl⟩
            go_wp2_with fail
            refine (last0_c wr _ p0 P5.out).mono ?_; rintro e w' ⟨rfl, q, rfl⟩
            have CD6 : Hid (CB (wr.drewN q) d p b0 f0 none mb) := CD
            have CR6 : Hid (CB (wr.drewN q) d0 p0 0 0 none mb0) := CR
            have LD6 := Lib.hid (LD.out.drewN q)
            have LR6 := Lib.hid (LR.out.drewN q)
            have B6 := Lib.hid (below_drewN B5.out q)
            clear q0 q1 q2 q3 q4 q5 s0 s1 s2 s3 s4 s5 CD CR LD LR B5 P5
            generalize wr.drewN q = w6 at *
            go_wp2_with fail
            refine (newLabel_c w6 _ _ _ _ _).mono ?_; rintro e w7 ⟨l, rfl, hld, b7, _⟩
            have HL := Lib.hid hld
            have CD7 := Lib.hid (show CB w7 d p b0 f0 none mb from Blk.below CD6.out b7 (Blk.lt CD6.out))
            have CR7 := Lib.hid (show CB w7 d0 p0 0 0 none mb0 from Blk.below CR6.out b7 (Blk.lt CR6.out))
            have LD7 := Lib.hid (LD6.out.below b7)
            have LR7 := Lib.hid (LR6.out.below b7)
            have B7 := Lib.hid (B6.out.trans (b7.mono B6.out.size))
            clear hld b7
            go_wp2_with fail
            refine (addNew_c w7 d p b0 f0 _ mb 0 0 _ ⟨#[76]⟩ l CD7.out LD7.out (by decide) (by decide) HL.out rfl).mono ?_; rintro e w8 ⟨rfl, hlm8, hg8⟩
            have CD8 := Lib.hid (CD7.out.grown LD7.out hg8)
            have CR8 := Lib.hid (CR7.out.grown LD7.out hg8)
            have LR8 := Lib.hid (LR7.out.other hg8 hne)
            have LD8 := Lib.hid hlm8
            have B8 : Hid (Below w1.heap.size w1 w8) := Lib.hid (B7.out.grown hg8 B7.out.size (fun j hj => by cases hj; exact hmw))
            clear hlm8 hg8
            go_wp2_with fail
            refine (countLabel_c w8 d p b0 f0 _ mb _ _ _ CD8.out LD8.out).mono ?_; rintro e w' ⟨rfl, rfl⟩
            go_wp2_with fail
            have GL := Lib.hid (show Calls Try.prog 14 #[.pointer (some ⟨d, 0, none⟩), .string ⟨#[76]⟩] w8 fun e w' => e = .returned (.pointer (some ⟨l, 0, none⟩)) ∧ w8 = w' from (getLabel_c w8 d p b0 f0 _ mb _ _ _ ⟨#[76]⟩ CD8.out LD8.out (by decide)).mono fun e w' ⟨h1, h2⟩ => ⟨by rw [h1]; unfold updF; rw [if_pos rfl]; rfl, h2⟩)
            refine GL.out.mono ?_; rintro e w' ⟨rfl, rfl⟩
            go_wp2_with fail
            refine (countLabel_c w8 d0 p0 0 0 _ mb0 0 0 _ CR8.out LR8.out).mono ?_; rintro e w' ⟨rfl, rfl⟩
            go_wp2_with fail
            refine (getNone_c w8 d0 p0 0 0 _ mb0 ⟨#[76]⟩ CR8.out LR8.out (by decide)).mono ?_; rintro e w' ⟨rfl, rfl⟩
            go_wp2_with fail
            go_ret
            exact ⟨rfl, B1.out.trans (B8.out.mono B1.out.size)⟩
      · go_wp2_with fail
        refine (newCB_c w4 p b0 f0 (some ⟨d0, 0, none⟩)).mono ?_; rintro e w5 ⟨d, mb, rfl, hcb, hlm, b5, hd, hmb⟩
        have CD := Lib.hid hcb
        have LD := Lib.hid hlm
        have CR := Lib.hid (show CB w5 d0 p0 0 0 none mb0 from Blk.below CR4.out b5 (Blk.lt CR4.out))
        have LR := Lib.hid (LR4.out.below b5)
        have P5 := Lib.hid (P4.out.below b5)
        have B5 := Lib.hid (B4.out.trans (b5.mono B4.out.size))
        have hmw := Nat.le_trans B4.out.size hmb
        have hne : mb0 ≠ mb := by omega
        have q0 := (Blk.cell hcb 0).trans rfl
        have q1 := (Blk.cell hcb 1).trans rfl
        have q2 := (Blk.cell hcb 2).trans rfl
        have q3 := (Blk.cell hcb 3).trans rfl
        have q4 := (Blk.cell hcb 4).trans rfl
        have q5 := (Blk.cell hcb 5).trans rfl
        have s0 := (Blk.cell CR.out 0).trans rfl
        have s1 := (Blk.cell CR.out 1).trans rfl
        have s2 := (Blk.cell CR.out 2).trans rfl
        have s3 := (Blk.cell CR.out 3).trans rfl
        have s4 := (Blk.cell CR.out 4).trans rfl
        have s5 := (Blk.cell CR.out 5).trans rfl
        clear hcb hlm b5 hd hmb CR4 LR4 P4
        go_wp2_with fail
        refine (firstGoto_c w5 d p b0 f0 _ mb CD.out).mono ?_; rintro e w' ⟨rfl, rfl⟩
        go_wp2_with fail
        refine (countLabel_c w5 d p b0 f0 _ mb 0 0 _ CD.out LD.out).mono ?_; rintro e w' ⟨rfl, rfl⟩
        go_wp2_with fail
        refine (getNone_c w5 d p b0 f0 _ mb ⟨#[]⟩ CD.out LD.out (by decide)).mono ?_; rintro e w' ⟨rfl, rfl⟩
        go_wp2_with fail
        go_loopw [17] (fun i wq => ∃ j : Nat, j ≤ k ∧ i = .int .i64 j ∧ wq = w5) (fun i _ => k - (intOf i).toNat)
        case atStart => exact ⟨0, Nat.zero_le _, rfl, rfl⟩
        case round =>
          obtain ⟨j, hj, rfl, rfl⟩ := hrel
          by_cases hlt : j < k
          · obtain ⟨x, hx⟩ : ∃ x, rs[j]? = some x := ⟨rs[j]'(by have := A3'.out.1; rw [List.length_map] at this; omega), List.getElem?_eq_getElem _⟩
            obtain ⟨bk, o1, rfl, _, hc1⟩ := (A3'.out.below B5.out).2.2.2.2 (by omega)
            have ck1 : wr.cell? ⟨bk, o1 + j, none⟩ = some (.string x) := hc1 j _ (by rw [List.getElem?_map, hx]; rfl)
            have i0 : (0 : Int) ≤ (j : Int) := by omega
            have i1 : (j : Int) < (k : Int) := by omega
            have xs : x.size ≤ maxLen := R1.out x (List.mem_of_getElem? hx)
            have XS := Lib.hid xs
            clear hx hc1 xs
            go_wp2_with fail
            refine (getNone_c wr d p b0 f0 _ mb x CD.out LD.out XS.out).mono ?_; rintro e w' ⟨rfl, rfl⟩
            go_wp2_with fail
            go_roundw
            case rel => exact ⟨j + 1, by omega, by go_num, by first | rfl | trivial⟩
            case measure => simp [intOf]; omega
          · obtain rfl : j = k := by omega
            clear hlt
            go_wp2_with fail
            refine (firstGoto_c wr d0 p0 0 0 _ mb0 CR.out).mono ?_; rintro e w' ⟨rfl, rfl⟩
            go_wp2_with fail
            refine (countLabel_c wr d0 p0 0 0 _ mb0 0 0 _ CR.out LR.out).mono ?_; rintro e w' ⟨rfl, rfl⟩
            go_wp2_with fail
            refine (last0_c wr _ p0 P5.out).mono ?_; rintro e w' ⟨rfl, q, rfl⟩
            have CD6 : Hid (CB (wr.drewN q) d p b0 f0 (some ⟨d0, 0, none⟩) mb) := CD
            have CR6 : Hid (CB (wr.drewN q) d0 p0 0 0 none mb0) := CR
            have LD6 := Lib.hid (LD.out.drewN q)
            have LR6 := Lib.hid (LR.out.drewN q)
            have B6 := Lib.hid (below_drewN B5.out q)
            clear q0 q1 q2 q3 q4 q5 s0 s1 s2 s3 s4 s5 CD CR LD LR B5 P5
            generalize wr.drewN q = w6 at *
            go_wp2_with fail
            refine (newLabel_c w6 _ _ _ _ _).mono ?_; rintro e w7 ⟨l, rfl, hld, b7, _⟩
            have HL := Lib.hid hld
            have CD7 := Lib.hid (show CB w7 d p b0 f0 (some ⟨d0, 0, none⟩) mb from Blk.below CD6.out b7 (Blk.lt CD6.out))
            have CR7 := Lib.hid (show CB w7 d0 p0 0 0 none mb0 from Blk.below CR6.out b7 (Blk.lt CR6.out))
            have LD7 := Lib.hid (LD6.out.below b7)
            have LR7 := Lib.hid (LR6.out.below b7)
            have B7 := Lib.hid (B6.out.trans (b7.mono B6.out.size))
            clear hld b7
            go_wp2_with fail
            refine (addNew_c w7 d p b0 f0 _ mb 0 0 _ ⟨#[76]⟩ l CD7.out LD7.out (by decide) (by decide) HL.out rfl).mono ?_; rintro e w8 ⟨rfl, hlm8, hg8⟩
            have CD8 := Lib.hid (CD7.out.grown LD7.out hg8)
            have CR8 := Lib.hid (CR7.out.grown LD7.out hg8)
            have LR8 := Lib.hid (LR7.out.other hg8 hne)
            have LD8 := Lib.hid hlm8
            have B8 : Hid (Below w1.heap.size w1 w8) := Lib.hid (B7.out.grown hg8 B7.out.size (fun j hj => by cases hj; exact hmw))
            clear hlm8 hg8
            go_wp2_with fail
            refine (countLabel_c w8 d p b0 f0 _ mb _ _ _ CD8.out LD8.out).mono ?_; rintro e w' ⟨rfl, rfl⟩
            go_wp2_with fail
            have GL := Lib.hid (show Calls Try.prog 14 #[.pointer (some ⟨d, 0, none⟩), .string ⟨#[76]⟩] w8 fun e w' => e = .returned (.pointer (some ⟨l, 0, none⟩)) ∧ w8 = w' from (getLabel_c w8 d p b0 f0 _ mb _ _ _ ⟨#[76]⟩ CD8.out LD8.out (by decide)).mono fun e w' ⟨h1, h2⟩ => ⟨by rw [h1]; unfold updF; rw [if_pos rfl]; rfl, h2⟩)
            refine GL.out.mono ?_; rintro e w' ⟨rfl, rfl⟩
            go_wp2_with fail
            refine (countLabel_c w8 d0 p0 0 0 _ mb0 0 0 _ CR8.out LR8.out).mono ?_; rintro e w' ⟨rfl, rfl⟩
            go_wp2_with fail
            refine (getNone_c w8 d0 p0 0 0 _ mb0 ⟨#[76]⟩ CR8.out LR8.out (by decide)).mono ?_; rintro e w' ⟨rfl, rfl⟩
            go_wp2_with fail
            go_ret
            exact ⟨rfl, B1.out.trans (B8.out.mono B1.out.size)⟩
end Go.Proofs.Ytofbdaicahngfaa
