/-
  The law: loads of strings follow the plain table of different strings.
-/
import Derived.Test.YtofbdaicahngfaaFmtSeen
import Derived.Test.YtofbdaicahngfaaFmtTwice
namespace Go.Proofs.YtofbdaicahngfaaFmt
open Go.RowKit Go.Extern.Stop Go.Stop Go.Extern
set_option linter.unusedVariables false

set_option maxHeartbeats 8000000 in
set_option maxRecDepth 100000 in
theorem law_model (F : Interp) (A : Option Addr) (n c : Nat) (zs : List ByteArray) (reg : Int) (w : World) (hF : F.told.answers w.tape) (h : Arg w A n c (zs.map Value.string)) (hz : ∀ z ∈ zs, z.size ≤ maxLen) (hr : -9223372036854775808 ≤ reg ∧ reg ≤ 9223372036854775807) :
    Calls Tryf.prog 3 #[.slice A n c, .int .i64 reg] w fun e w' => e = .returned (.bool true) ∧ Below w.heap.size w w' := by
  show Calls Tryf.prog 3 #[.slice A n c, .int .i64 reg] w (TrueB w)
  have hn : n ≤ 9223372036854775807 := by have := h.2.1; have := h.2.2.1; unfold maxLen at this; omega
  obtain ⟨hr1, hr2⟩ := hr
  have H := Lib.hid h
  have HZ := Lib.hid hz
  clear h hz hF
  go_enter Tryf.func3, Tryf.ntmps3
  go_wp2_with fail
  refine (bytes5_c reg A n c zs w hn H.out HZ.out).mono ?_
  rintro e w' ⟨b, rfl, rfl⟩
  cases b
  · go_wp2_with fail
    go_ret
    exact TrueB.here
  by_cases g0 : n ≤ 4096
  case neg =>
    have g0' : 4096 < n := by omega
    clear g0
    go_wp2_with fail
    go_ret
    exact TrueB.here
  go_wp2_with fail
  go_loopw [5, 6] (fun tt i wr => ∃ k z : Nat, k ≤ n ∧ i = .int .i64 k ∧ tt = .int .i64 z ∧ z ≤ 2097152 ∧ wr = w) (fun _ i _ => n - (intOf i).toNat)
  case atStart => exact ⟨0, 16 * n, Nat.zero_le _, rfl, by go_num, by omega, rfl⟩
  case round =>
    obtain ⟨k, z, hk, rfl, rfl, hz, rfl⟩ := hrel
    by_cases hlt : k < n
    · obtain ⟨x, hx⟩ : ∃ x, zs[k]? = some x := ⟨zs[k]'(by have := H.out.1; rw [List.length_map] at this; omega), List.getElem?_eq_getElem _⟩
      obtain ⟨b, off, rfl, hb, hc⟩ := H.out.2.2.2.2 (by omega)
      have ck : wr.cell? ⟨b, off + k, none⟩ = some (.string x) := hc k _ (by rw [List.getElem?_map, hx]; rfl)
      have xs : x.size ≤ 9223372036854775807 := by have := HZ.out x (List.mem_of_getElem? hx); unfold maxLen at this; omega
      have i0 : (0 : Int) ≤ (k : Int) := by omega
      have i1 : (k : Int) < (n : Int) := by omega
      clear hx hc
      by_cases h1 : x.size ≤ 1048576
      · by_cases h2 : z + x.size ≤ 1048576
        · go_wp2_with fail
          go_roundw
          case rel => exact ⟨k + 1, z + x.size, by omega, by go_num, by go_num, by omega, by first | rfl | trivial⟩
          case measure => simp [intOf]; omega
        · have h2' : 1048576 < z + x.size := by omega
          clear h2
          go_wp2_with fail
          go_ret
          exact TrueB.here
      · have h1' : 1048576 < x.size := by omega
        clear h1
        go_wp2_with fail
        go_ret
        exact TrueB.here
    · obtain rfl : k = n := by omega
      by_cases r0 : reg < 0
      · go_wp2_with fail
        go_ret
        exact TrueB.here
      by_cases r1 : 65536 < reg
      · go_wp2_with fail
        go_ret
        exact TrueB.here
      go_wp2_with fail
      refine (copy_str A k c zs wr H.out (by omega)).mono ?_
      rintro e wa ⟨A2, c2, rfl, ha2, hba⟩
      have HA2 := Lib.hid ha2
      have HBA := Lib.hid hba
      clear ha2 hba
      go_wp2_with fail
      refine (newCtxS_c wa _).mono ?_
      rintro e wb ⟨f, rfl, hf, hbb⟩
      have ST := Lib.hid (start_state (reg := reg) hf hbb)
      have HBB : Hid (Below wa.heap.size wa (wb.alloc (.cells #[.int .i64 reg] 3))) := hbb.alloc hbb.size _
      have hle : wa.heap.size ≤ wb.heap.size := hbb.size
      clear hf hbb
      go_upto_region 19 with fail
      generalize wb.alloc (.cells #[.int .i64 reg] 3) = w00 at *
      generalize wb.heap.size = rb at *
      obtain ⟨wz, hwz⟩ : ∃ wz, wz = wr := ⟨_, rfl⟩
      subst hwz
      clear hr1 hr2 hz
      have hmk := run_make_cap 22 9 (.string ⟨#[]⟩) 16 Tryf.underlying22 zcell22 rfl k (by omega) (by omega) w00
      go_upto_region 20 with fail
      have SEEN0 := Lib.hid (own_made w00 (base := wa.heap.size) 9 (.string ⟨#[]⟩) k rfl HBB.out.size (by unfold maxLen; omega))
      have ST0 : Hid (Loaded (w00.alloc (.cells (madeCells #[.string ⟨#[]⟩] k) 9)) (w00.alloc (.cells (madeCells #[.string ⟨#[]⟩] k) 9)) wa.heap.size f rb [] [] reg) := by
        obtain ⟨L, hc⟩ := ST.out.ctx
        have hq := hc.farC_below (r := rb) (w' := w00.alloc (.cells (madeCells #[.string ⟨#[]⟩] k) 9)) ((Below.refl _ _).alloc (Nat.le_refl _) _)
        exact ⟨⟨L, hq.1⟩, ST.out.reg.alloc _, Below.refl _ _, FarC.refl _ _ _, hq.2.out ST.out.reg.lt ST.out.out⟩
      have HB0 : Hid (Below wa.heap.size wa (w00.alloc (.cells (madeCells #[.string ⟨#[]⟩] k) 9))) := HBB.out.alloc HBB.out.size _
      clear hmk
      generalize w00.alloc (.cells (madeCells #[.string ⟨#[]⟩] k) 9) = w0 at *
      generalize w00.heap.size = g00 at *
      clear HBB ST
      go_wp2_with fail
      go_loopw [9, 10] (fun sn i wr => ∃ (j : Nat) (S : List Int) (r : Int) (g m cap : Nat), j ≤ k ∧ i = .int .i64 j ∧ sn = .slice (some ⟨g, 0, none⟩) m cap ∧ S.length ≤ j ∧ reg ≤ r ∧ r ≤ reg + j ∧ Hid ((table (zs.take j)).length = m) ∧ Hid (Loaded wr wr wa.heap.size f rb (table (zs.take j)) S r) ∧
          Hid (wr.ownsRow wa.heap.size 9 1 (.slice (some ⟨g, 0, none⟩) m cap) m ((table (zs.take j)).map Value.string)) ∧ Hid (Below wa.heap.size w0 wr)) (fun _ i _ => k - (intOf i).toNat)
      case atStart => exact ⟨0, [], reg, g00, 0, k, Nat.zero_le _, rfl, rfl, Nat.le_refl _, by omega, by omega, Lib.hid rfl, ST0, SEEN0, Below.refl _ _⟩
      case round =>
        obtain ⟨j, S, r, g, m, cap, hj, rfl, rfl, hS, hra, hrb, hm, hL, hO, hBel⟩ := hrel
        obtain ⟨wo, hwo⟩ : ∃ wo, wo = wr := ⟨_, rfl⟩
        subst hwo
        by_cases hlt2 : j < k
        · obtain ⟨b2, o2, u2, e2, x2, cell2, lt2⟩ := HA2.out.at_ (HB0.out.trans hBel.out) hlt2
          subst e2
          obtain ⟨z2, X2, rfl⟩ := map_get x2
          have T2 := Lib.hid (table_take X2)
          have TL := table_take_len zs j
          have i0 : (0 : Int) ≤ (j : Int) := by omega
          have i1 : (j : Int) < (k : Int) := by omega
          have CA : Hid (wa.cell? ⟨b2, o2 + j, none⟩ = some (.string z2)) := ((HB0.out.trans hBel.out).cell (p := ⟨b2, o2 + j, none⟩) lt2).symm.trans cell2
          generalize htb : table (zs.take j) = cs at *
          clear htb x2 X2 cell2
          have hm4 : m ≤ 4096 := by have := hm.out; omega
          have hcm : cs.length < 8192 := by omega
          obtain ⟨n0, hn0⟩ : ∃ n0, S.length = n0 := ⟨_, rfl⟩
          have HN0 := Lib.hid hn0
          have hnj : n0 ≤ j := by omega
          have hSl : S.length < 1048576 := by omega
          clear hn0 hS
          by_cases hq : idx cs z2 < m
          · obtain ⟨q, hqq⟩ : ∃ q, idx cs z2 = q := ⟨_, rfl⟩
            have HQ := Lib.hid hqq
            have HIN : Hid (ins cs z2 = cs) := ins_old (by rw [hm.out]; exact hq)
            rw [hqq] at hq
            clear hqq
            go_upto_region 24 with fail
            go_wp2_with fail
            go_loopw [12] (fun i wr => ∃ jj : Nat, jj ≤ q ∧ i = .int .i64 jj ∧ Hid (QD wo wr)) (fun i _ => q - (intOf i).toNat)
            case atStart => exact ⟨0, Nat.zero_le _, rfl, QD.refl _⟩
            case round =>
              obtain ⟨jj, hjj, rfl, hqd⟩ := hrel
              have cz : wr.cell? ⟨b2, o2 + j, none⟩ = some (.string z2) := ((HB0.out.trans (below_qd hBel.out hqd.out)).cell (p := ⟨b2, o2 + j, none⟩) lt2).trans CA.out
              obtain ⟨y, hy⟩ : ∃ y, cs[jj]? = some y := ⟨cs[jj]'(by rw [hm.out]; omega), List.getElem?_eq_getElem _⟩
              have cy : wr.cell? ⟨g, jj, none⟩ = some (.string y) := by rw [(own_qd hO.out hqd.out).cellAt jj (by omega), List.getElem?_map, hy]; rfl
              have HY := Lib.hid hy
              have k0 : (0 : Int) ≤ (jj : Int) := by omega
              have k1 : (jj : Int) < (m : Int) := by omega
              clear hy
              by_cases hjq : jj < q
              · have hne := str_ne (idx_ne (by rw [HQ.out]; exact hjq) HY.out)
                go_wp2_with fail
                go_quiet (fail)
                go_wp2_with fail
                go_roundw
                case rel => exact ⟨jj + 1, by omega, by go_num, hqd.out.step _⟩
                case measure => simp [intOf]; omega
              · obtain rfl : q = jj := by omega
                obtain rfl : z2 = y := by
                  have h1 := idx_get (cs := cs) (s := z2) (by rw [HQ.out, hm.out]; exact hq)
                  rw [HQ.out, HY.out] at h1
                  exact (Option.some.inj h1).symm
                have hse := str_self z2
                go_upto_region 27 with fail
                have cr : wr.cell? ⟨rb, 0, none⟩ = some (.int .i64 r) := ((hL.out.qd hqd.out).reg.cell 0).trans rfl
                go_quiet (fail)
                go_wp2_with fail
                have D1 := hqd.out.step nq
                have HX := Lib.hid (hL.out.qd D1)
                have OX : Hid ((wr.drewN nq).ownsRow wa.heap.size 9 1 (.slice (some ⟨g, 0, none⟩) m cap) m ((ins cs z2).map Value.string)) := by rw [HIN.out]; exact own_qd hO.out D1
                have BX := Lib.hid (below_qd hBel.out D1)
                have HMS : Hid ((ins cs z2).length = m) := by rw [HIN.out]; exact hm.out
                clear D1 cz cy cr
                generalize wr.drewN nq = wx at *
                refine (code_at wx wx wa.heap.size f rb n0 cs S r HX.out HN0.out).mono ?_
                rintro e w2 ⟨g2, c2', rfl, _, _, _, qd2, hw2⟩
                have D2 : QD wx w2 := ⟨qd2, hw2⟩
                have H2 := Lib.hid (HX.out.qd D2)
                have O2 := Lib.hid (own_qd OX.out D2)
                have B2 := Lib.hid (below_qd BX.out D2)
                have C2 : w2.cell? ⟨b2, o2 + j, none⟩ = some (.string z2) := ((HB0.out.trans (below_qd BX.out D2)).cell (p := ⟨b2, o2 + j, none⟩) lt2).trans CA.out
                obtain ⟨L2, hc2⟩ := H2.out.ctx
                have HC2 := Lib.hid hc2
                clear D2 hw2 hc2 HX OX BX
                go_wp2_with fail
                by_cases hq2 : q ≤ 255
                · have hq3 : (q : Int) ≤ 255 := by omega
                  refine (load_small w2 wa.heap.size f rb q z2 cs S L2 r HC2.out hcm hSl H2.out.reg hle H2.out.out (by omega) (by omega) HQ.out hq2).mono ?_
                  rintro e w3 ⟨rfl, hl3⟩
                  have H3 := Lib.hid hl3.self
                  have O3 := Lib.hid (seen_kept H2.out hl3 O2.out)
                  have B3 := Lib.hid (B2.out.trans hl3.below)
                  clear hl3
                  go_wp2_with fail
                  refine (code_at w3 w3 wa.heap.size f rb n0 (ins cs z2) S r H3.out HN0.out).mono ?_
                  rintro e w4 ⟨g4, c4, rfl, _, r4, _, qd4, hw4⟩
                  have D4 : QD w3 w4 := ⟨qd4, hw4⟩
                  have H4 := Lib.hid (H3.out.qd D4)
                  have O4 := Lib.hid (own_qd O3.out D4)
                  have B4 := Lib.hid (below_qd B3.out D4)
                  clear D4 hw4
                  go_wp2_with fail
                  go_roundw
                  case rel => exact ⟨j + 1, S, r, g, m, cap, by omega, by go_num, by first | rfl | go_num, by rw [HN0.out]; omega, by omega, by omega, by rw [T2.out]; exact HMS, by rw [T2.out]; exact H4, by rw [T2.out]; exact O4, B4⟩
                  case measure => simp [intOf]; omega
                · have hq3 : ¬ (q : Int) ≤ 255 := by omega
                  obtain ⟨x, hx⟩ : ∃ x : Int, x = 134217728 + r % 256 * 262144 + (q : Int) := ⟨_, rfl⟩
                  obtain ⟨x0, x1, xo, xb, xa⟩ := word_parts r q x (by omega) hx
                  have HX := Lib.hid hx
                  have XO := Lib.hid xo
                  have XB := Lib.hid xb
                  have XA := Lib.hid xa
                  clear hx xo xb xa
                  refine (load_big w2 wa.heap.size f rb q z2 cs S L2 r x HC2.out hcm hSl H2.out.reg hle H2.out.out (by omega) (by omega) HQ.out hq2 HX.out).mono ?_
                  rintro e w3 ⟨rfl, hl3⟩
                  have H3 := Lib.hid hl3.self
                  have O3 := Lib.hid (seen_kept H2.out hl3 O2.out)
                  have B3 := Lib.hid (B2.out.trans hl3.below)
                  clear hl3
                  go_wp2_with fail
                  refine (code_at w3 w3 wa.heap.size f rb (n0 + 1) (ins cs z2) (S ++ [x]) (r + 1) H3.out (by rw [List.length_append, HN0.out]; rfl)).mono ?_
                  rintro e w4 ⟨g4, c4, rfl, hx4, r4, _, qd4, hw4⟩
                  have D4 : QD w3 w4 := ⟨qd4, hw4⟩
                  have H4 := Lib.hid (H3.out.qd D4)
                  have O4 := Lib.hid (own_qd O3.out D4)
                  have B4 := Lib.hid (below_qd B3.out D4)
                  have cx : w4.cell? ⟨g4, n0, none⟩ = some (.int .u32 x) := hx4 n0 x (by rw [← HN0.out]; simp)
                  have n1 : (0 : Int) ≤ (n0 : Int) := by omega
                  have n2 : (n0 : Int) < (n0 : Int) + 1 := by omega
                  have e1 := i64_and_255 r
                  clear D4 hw4 hx4
                  go_wp2_with fail
                  refine (opc_c x x0 x1 w4).mono ?_; rintro e w' ⟨rfl, rfl⟩
                  rw [XO.out]
                  go_wp2_with fail
                  refine (bx_c x x0 x1 _).mono ?_; rintro e w' ⟨rfl, rfl⟩
                  rw [XB.out]
                  go_wp2_with fail
                  refine (a_c x x0 x1 _).mono ?_; rintro e w' ⟨rfl, rfl⟩
                  rw [XA.out]
                  go_wp2_with fail
                  go_roundw
                  case rel => exact ⟨j + 1, S ++ [x], r + 1, g, m, cap, by omega, by go_num, by first | rfl | go_num, by rw [List.length_append, HN0.out]; simp; omega, by omega, by omega, by rw [T2.out]; exact HMS, by rw [T2.out]; exact H4, by rw [T2.out]; exact O4, B4⟩
                  case measure => simp [intOf]; omega
          · have hqm : idx cs z2 = m := by have := idx_le cs z2; rw [hm.out] at this; omega
            have HQ := Lib.hid hqm
            have HIN : Hid (ins cs z2 = cs ++ [z2]) := ins_new (by rw [hm.out]; exact hq)
            have HMS : Hid ((ins cs z2).length = m + 1) := by rw [HIN.out, List.length_append, hm.out]; rfl
            clear hqm hq
            go_upto_region 24 with fail
            go_wp2_with fail
            go_loopw [11, 12] (fun d i wr => ∃ jj : Nat, jj ≤ m ∧ i = .int .i64 jj ∧ d = .int .i64 (-1) ∧ Hid (QD wo wr)) (fun _ i _ => m - (intOf i).toNat)
            case atStart => exact ⟨0, Nat.zero_le _, rfl, rfl, QD.refl _⟩
            case round =>
              obtain ⟨jj, hjj, rfl, rfl, hqd⟩ := hrel
              have cz : wr.cell? ⟨b2, o2 + j, none⟩ = some (.string z2) := ((HB0.out.trans (below_qd hBel.out hqd.out)).cell (p := ⟨b2, o2 + j, none⟩) lt2).trans CA.out
              by_cases hjq : jj < m
              · obtain ⟨y, hy⟩ : ∃ y, cs[jj]? = some y := ⟨cs[jj]'(by rw [hm.out]; omega), List.getElem?_eq_getElem _⟩
                have cy : wr.cell? ⟨g, jj, none⟩ = some (.string y) := by rw [(own_qd hO.out hqd.out).cellAt jj (by omega), List.getElem?_map, hy]; rfl
                have HY := Lib.hid hy
                have k0 : (0 : Int) ≤ (jj : Int) := by omega
                have k1 : (jj : Int) < (m : Int) := by omega
                clear hy
                have hne := str_ne (idx_ne (by rw [HQ.out]; exact hjq) HY.out)
                go_wp2_with fail
                go_quiet (fail)
                go_wp2_with fail
                go_roundw
                case rel => exact ⟨jj + 1, by omega, by go_num, rfl, hqd.out.step _⟩
                case measure => simp [intOf]; omega
              · obtain rfl : m = jj := by omega
                have HX0 := Lib.hid (hL.out.qd hqd.out)
                have OX0 := Lib.hid (own_qd hO.out hqd.out)
                have BX0 := Lib.hid (below_qd hBel.out hqd.out)
                obtain ⟨i9, hi9, hz9, hs9, hb9⟩ := info_parts zcell22
                have hbw : wa.heap.size ≤ wr.heap.size := Nat.le_trans HB0.out.size BX0.out.size
                go_upto_region 30 with fail
                go_wp2_with (at_builtin; go_must (refine wpList_append_lies _ rfl (.tmp 87) (.tmp 92) _ rfl wa.heap.size 9 i9 _ 1 16 Tryf.underlying22 hi9 hz9 hs9 hb9 rfl (by omega) (.slice (some ⟨g, 0, none⟩) _ cap) _ (cs.map Value.string) rfl (OX0.out.alloc _) ⟨wr.heap.size, 0, none⟩ 1 1 [.string z2] rfl rfl (World.news_of_block (cs := #[.string z2]) (t := 9) (fr := (0, 0)) (heap_alloc_new wr _)) (by simp [Value.oneCell']) (by omega) (by unfold maxLen; omega) (by omega) (by simp; omega) (wr.heap.size + 1) (by simp) ?_))
                intro gg capp wx hown1 hgrow1 hat1 hlt1
                have HX := Lib.hid (HX0.out.grown OX0.out hgrow1)
                have OX : Hid (wx.ownsRow wa.heap.size 9 1 (.slice (some ⟨gg, 0, none⟩) (m + 1) capp) (m + 1) ((ins cs z2).map Value.string)) := by rw [HIN.out, List.map_append]; exact hown1
                have BX : Hid (Below wa.heap.size w0 wx) := (BX0.out.alloc hbw _).grown hgrow1 (by simp; omega) (fun i hi => by obtain ⟨_, _, hge⟩ := own_heap OX0.out; simp [Value.ownBlock] at hi; omega)
                have cr : wx.cell? ⟨rb, 0, none⟩ = some (.int .i64 r) := (HX.out.reg.cell 0).trans rfl
                clear hown1 hgrow1 hat1 hlt1 cz HX0 OX0 BX0
                go_wp2_with fail
                clear cr
                refine (code_at wx wx wa.heap.size f rb n0 cs S r HX.out HN0.out).mono ?_
                rintro e w2 ⟨g2, c2', rfl, _, _, _, qd2, hw2⟩
                have D2 : QD wx w2 := ⟨qd2, hw2⟩
                have H2 := Lib.hid (HX.out.qd D2)
                have O2 := Lib.hid (own_qd OX.out D2)
                have B2 := Lib.hid (below_qd BX.out D2)
                have C2 : w2.cell? ⟨b2, o2 + j, none⟩ = some (.string z2) := ((HB0.out.trans (below_qd BX.out D2)).cell (p := ⟨b2, o2 + j, none⟩) lt2).trans CA.out
                obtain ⟨L2, hc2⟩ := H2.out.ctx
                have HC2 := Lib.hid hc2
                clear D2 hw2 hc2 HX OX BX
                go_wp2_with fail
                by_cases hq2 : m ≤ 255
                · have hq3 : (m : Int) ≤ 255 := by omega
                  refine (load_small w2 wa.heap.size f rb m z2 cs S L2 r HC2.out hcm hSl H2.out.reg hle H2.out.out (by omega) (by omega) HQ.out hq2).mono ?_
                  rintro e w3 ⟨rfl, hl3⟩
                  have H3 := Lib.hid hl3.self
                  have O3 := Lib.hid (seen_kept H2.out hl3 O2.out)
                  have B3 := Lib.hid (B2.out.trans hl3.below)
                  clear hl3
                  go_wp2_with fail
                  refine (code_at w3 w3 wa.heap.size f rb n0 (ins cs z2) S r H3.out HN0.out).mono ?_
                  rintro e w4 ⟨g4, c4, rfl, _, r4, _, qd4, hw4⟩
                  have D4 : QD w3 w4 := ⟨qd4, hw4⟩
                  have H4 := Lib.hid (H3.out.qd D4)
                  have O4 := Lib.hid (own_qd O3.out D4)
                  have B4 := Lib.hid (below_qd B3.out D4)
                  clear D4 hw4
                  go_wp2_with fail
                  go_roundw
                  case rel => exact ⟨j + 1, S, r, gg, m + 1, capp, by omega, by go_num, by first | rfl | go_num, by rw [HN0.out]; omega, by omega, by omega, by rw [T2.out]; exact HMS, by rw [T2.out]; exact H4, by rw [T2.out]; exact O4, B4⟩
                  case measure => simp [intOf]; omega
                · have hq3 : ¬ (m : Int) ≤ 255 := by omega
                  obtain ⟨x, hx⟩ : ∃ x : Int, x = 134217728 + r % 256 * 262144 + (m : Int) := ⟨_, rfl⟩
                  obtain ⟨x0, x1, xo, xb, xa⟩ := word_parts r m x (by omega) hx
                  have HX := Lib.hid hx
                  have XO := Lib.hid xo
                  have XB := Lib.hid xb
                  have XA := Lib.hid xa
                  clear hx xo xb xa
                  refine (load_big w2 wa.heap.size f rb m z2 cs S L2 r x HC2.out hcm hSl H2.out.reg hle H2.out.out (by omega) (by omega) HQ.out hq2 HX.out).mono ?_
                  rintro e w3 ⟨rfl, hl3⟩
                  have H3 := Lib.hid hl3.self
                  have O3 := Lib.hid (seen_kept H2.out hl3 O2.out)
                  have B3 := Lib.hid (B2.out.trans hl3.below)
                  clear hl3
                  go_wp2_with fail
                  refine (code_at w3 w3 wa.heap.size f rb (n0 + 1) (ins cs z2) (S ++ [x]) (r + 1) H3.out (by rw [List.length_append, HN0.out]; rfl)).mono ?_
                  rintro e w4 ⟨g4, c4, rfl, hx4, r4, _, qd4, hw4⟩
                  have D4 : QD w3 w4 := ⟨qd4, hw4⟩
                  have H4 := Lib.hid (H3.out.qd D4)
                  have O4 := Lib.hid (own_qd O3.out D4)
                  have B4 := Lib.hid (below_qd B3.out D4)
                  have cx : w4.cell? ⟨g4, n0, none⟩ = some (.int .u32 x) := hx4 n0 x (by rw [← HN0.out]; simp)
                  have n1 : (0 : Int) ≤ (n0 : Int) := by omega
                  have n2 : (n0 : Int) < (n0 : Int) + 1 := by omega
                  have e1 := i64_and_255 r
                  clear D4 hw4 hx4
                  go_wp2_with fail
                  refine (opc_c x x0 x1 w4).mono ?_; rintro e w' ⟨rfl, rfl⟩
                  rw [XO.out]
                  go_wp2_with fail
                  refine (bx_c x x0 x1 _).mono ?_; rintro e w' ⟨rfl, rfl⟩
                  rw [XB.out]
                  go_wp2_with fail
                  refine (a_c x x0 x1 _).mono ?_; rintro e w' ⟨rfl, rfl⟩
                  rw [XA.out]
                  go_wp2_with fail
                  go_roundw
                  case rel => exact ⟨j + 1, S ++ [x], r + 1, gg, m + 1, capp, by omega, by go_num, by first | rfl | go_num, by rw [List.length_append, HN0.out]; simp; omega, by omega, by omega, by rw [T2.out]; exact HMS, by rw [T2.out]; exact H4, by rw [T2.out]; exact O4, B4⟩
                  case measure => simp [intOf]; omega
        · obtain rfl : j = k := by omega
          have TL := table_take_len zs j
          generalize table (zs.take j) = cs at *
          go_wp2_with fail
          refine (count_at wo wo wa.heap.size f rb m cs S r hL.out hm.out).mono ?_
          rintro e w' ⟨rfl, rfl⟩
          go_wp2_with fail
          go_loopw [18] (fun i wr => ∃ jj : Nat, jj ≤ m ∧ i = .int .i64 jj ∧ wr = wo) (fun i _ => m - (intOf i).toNat)
          case atStart => exact ⟨0, Nat.zero_le _, rfl, rfl⟩
          case round =>
            obtain ⟨jj, hjj, rfl, rfl⟩ := hrel
            by_cases h3 : jj < m
            · have hjl : jj < cs.length := by have := hm.out; omega
              obtain ⟨y, hy⟩ : ∃ y, cs[jj]? = some y := ⟨cs[jj], List.getElem?_eq_getElem hjl⟩
              have cy : wr.cell? ⟨g, jj, none⟩ = some (.string y) := by rw [hO.out.cellAt jj (by omega), List.getElem?_map, hy]; rfl
              have HY := Lib.hid hy
              have k0 : (0 : Int) ≤ (jj : Int) := by omega
              have k1 : (jj : Int) < (m : Int) := by omega
              clear hy
              go_wp2_with fail
              refine (constIs_at wr wr wa.heap.size f rb jj y cs S r hL.out HY.out).mono ?_
              rintro e w' ⟨rfl, rfl⟩
              go_wp2_with fail
              go_roundw
              case rel => exact ⟨jj + 1, by omega, by go_num, by first | rfl | trivial⟩
              case measure => simp [intOf]; omega
            · obtain rfl : m = jj := by omega
              go_wp2_with fail
              go_ret
              exact ⟨rfl, HBA.out.trans ((HB0.out.trans hBel.out).mono HBA.out.size)⟩
end Go.Proofs.YtofbdaicahngfaaFmt
