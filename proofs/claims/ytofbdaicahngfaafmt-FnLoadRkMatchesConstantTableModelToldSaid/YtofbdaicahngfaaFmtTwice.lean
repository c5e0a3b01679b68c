/-
  The law: a string loaded twice names the same constant.
-/
import Derived.Test.YtofbdaicahngfaaFmtTable
import Derived.Stop.JoinedTold
import Derived.Stop.JoinedAt
import Derived.Stop.Texts
namespace Go.Proofs.YtofbdaicahngfaaFmt
open Go.RowKit Go.Extern.Stop Go.Stop Go.Extern
set_option linter.unusedVariables false

def TrueB (w : World) (e : Ending) (w' : World) : Prop := e = .returned (.bool true) ∧ Below w.heap.size w w'
theorem TrueB.here {w : World} : TrueB w (.returned (.bool true)) w := ⟨rfl, Below.refl _ _⟩

set_option maxHeartbeats 4000000 in
set_option maxRecDepth 100000 in
theorem law_twice (F : Interp) (A : Option Addr) (n c : Nat) (zs : List ByteArray) (t : ByteArray) (reg : Int) (w : World) (hF : F.told.answers w.tape) (h : Arg w A n c (zs.map Value.string)) (hz : ∀ z ∈ zs, z.size ≤ maxLen) (ht : t.size ≤ maxLen) (hr : -9223372036854775808 ≤ reg ∧ reg ≤ 9223372036854775807) :
    Calls Tryf.prog 4 #[.slice A n c, .string t, .int .i64 reg] w fun e w' => e = .returned (.bool true) ∧ Below w.heap.size w w' := by
  show Calls Tryf.prog 4 #[.slice A n c, .string t, .int .i64 reg] w (TrueB w)
  have hn : n ≤ 9223372036854775807 := by have := h.2.1; have := h.2.2.1; unfold maxLen at this; omega
  obtain ⟨hr1, hr2⟩ := hr
  have ht' : t.size ≤ 9223372036854775807 := by unfold maxLen at ht; omega
  have H := Lib.hid h
  have HZ := Lib.hid hz
  have HT := Lib.hid ht
  clear h hz ht hF
  go_enter Tryf.func4, Tryf.ntmps4
  go_wp2_with fail
  refine (bytes15_c reg t A n c zs w hn H.out HZ.out HT.out).mono ?_
  rintro e w' ⟨b, rfl, rfl⟩
  cases b
  · go_wp2_with fail
    go_ret
    exact TrueB.here
  by_cases g0 : n ≤ 4096
  case neg =>
    have g0' : 4096 < n := by omega
    clear g0
    go_wp2_with fail
    go_ret
    exact TrueB.here
  by_cases g1 : t.size ≤ 1048576
  case neg =>
    have g1' : 1048576 < t.size := by omega
    clear g1
    go_wp2_with fail
    go_ret
    exact TrueB.here
  go_wp2_with fail
  go_loopw [7, 8] (fun tt i wr => ∃ k z : Nat, k ≤ n ∧ i = .int .i64 k ∧ tt = .int .i64 z ∧ z ≤ 2097152 ∧ wr = w) (fun _ i _ => n - (intOf i).toNat)
  case atStart => exact ⟨0, t.size + 16 * n, Nat.zero_le _, rfl, by go_num, by omega, rfl⟩
  case round =>
    obtain ⟨k, z, hk, rfl, rfl, hz, rfl⟩ := hrel
    by_cases hlt : k < n
    · obtain ⟨x, hx⟩ : ∃ x, zs[k]? = some x := ⟨zs[k]'(by have := H.out.1; rw [List.length_map] at this; omega), List.getElem?_eq_getElem _⟩
      obtain ⟨b, off, rfl, hb, hc⟩ := H.out.2.2.2.2 (by omega)
      have ck : wr.cell? ⟨b, off + k, none⟩ = some (.string x) := hc k _ (by rw [List.getElem?_map, hx]; rfl)
      have xs : x.size ≤ 9223372036854775807 := by have := HZ.out x (List.mem_of_getElem? hx); unfold maxLen at this; omega
      have i0 : (0 : Int) ≤ (k : Int) := by omega
      have i1 : (k : Int) < (n : Int) := by omega
      clear hx hc
      by_cases h1 : x.size ≤ 1048576
      · by_cases h2 : z + x.size ≤ 1048576
        · go_wp2_with fail
          go_roundw
          case rel => exact ⟨k + 1, z + x.size, by omega, by go_num, by go_num, by omega, by first | rfl | trivial⟩
          case measure => simp [intOf]; omega
        · have h2' : 1048576 < z + x.size := by omega
          clear h2
          go_wp2_with fail
          go_ret
          exact TrueB.here
      · have h1' : 1048576 < x.size := by omega
        clear h1
        go_wp2_with fail
        go_ret
        exact TrueB.here
    · obtain rfl : k = n := by omega
      by_cases r0 : reg < 0
      · go_wp2_with fail
        go_ret
        exact TrueB.here
      by_cases r1 : 65536 < reg
      · go_wp2_with fail
        go_ret
        exact TrueB.here
      go_wp2_with fail
      refine (copy_str A k c zs wr H.out (by omega)).mono ?_
      rintro e wa ⟨A2, c2, rfl, ha2, hba⟩
      have HA2 := Lib.hid ha2
      have HBA := Lib.hid hba
      clear ha2 hba
      go_wp2_with fail
      refine (newCtxS_c wa _).mono ?_
      rintro e wb ⟨f, rfl, hf, hbb⟩
      have ST := Lib.hid (start_state (reg := reg) hf hbb)
      have HBB : Hid (Below wa.heap.size wa (wb.alloc (.cells #[.int .i64 reg] 3))) := hbb.alloc hbb.size _
      have hle : wa.heap.size ≤ wb.heap.size := hbb.size
      clear hf hbb
      go_upto_region 19 with fail
      generalize wb.alloc (.cells #[.int .i64 reg] 3) = w0 at *
      generalize wb.heap.size = rb at *
      obtain ⟨wz, hwz⟩ : ∃ wz, wz = wr := ⟨_, rfl⟩
      subst hwz
      clear hr1 hr2 hz
      go_wp2_with fail
      go_loopw [11] (fun i wr => ∃ (j : Nat) (S : List Int) (r : Int), j ≤ k ∧ i = .int .i64 j ∧ S.length ≤ j ∧ reg ≤ r ∧ r ≤ reg + j ∧ Hid (Loaded w0 wr wa.heap.size f rb (table (zs.take j)) S r)) (fun i _ => k - (intOf i).toNat)
      case atStart => exact ⟨0, [], reg, Nat.zero_le _, rfl, Nat.le_refl _, by omega, by omega, ST.out⟩
      case round =>
        obtain ⟨j, S, r, hj, rfl, hS, hra, hrb, hL⟩ := hrel
        by_cases hlt2 : j < k
        · obtain ⟨b2, o2, u2, e2, x2, cell2, lt2⟩ := HA2.out.at_ (HBB.out.trans hL.out.below) hlt2
          subst e2
          obtain ⟨z2, X2, rfl⟩ := map_get x2
          have T2 := Lib.hid (table_take X2)
          have TL := table_take_len zs j
          have i0 : (0 : Int) ≤ (j : Int) := by omega
          have i1 : (j : Int) < (k : Int) := by omega
          clear x2 X2
          go_wp2_with fail
          refine (load_any w0 wr wa.heap.size f rb z2 _ S r hL.out (by omega) (by omega) hle (by omega) (by omega)).mono ?_
          rintro e w2 ⟨v, S2, r2, rfl, hl2, hS2, hr2, hr2'⟩
          rw [← T2.out] at hl2
          have HL2 := Lib.hid hl2
          clear hl2
          go_wp2_with fail
          go_roundw
          case rel => exact ⟨j + 1, S2, r2, by omega, by go_num, by omega, by omega, by omega, HL2.out⟩
          case measure => simp [intOf]; omega
        · obtain rfl : j = k := by omega
          have TL := table_take_len zs j
          generalize table (zs.take j) = cs at *
          obtain ⟨q, hq⟩ : ∃ q, idx cs t = q := ⟨_, rfl⟩
          obtain ⟨n0, hn0⟩ : ∃ n0, S.length = n0 := ⟨_, rfl⟩
          obtain ⟨cs1, hcs1⟩ : ∃ cs1, ins cs t = cs1 := ⟨_, rfl⟩
          obtain ⟨m1, hm1⟩ : ∃ m1, cs1.length = m1 := ⟨_, rfl⟩
          have hml := (ins_len cs t).2
          have hid := (ins_idx cs t).1
          have hget := ins_get cs t
          have hii := ins_ins cs t
          rw [hcs1] at hml hid hget hii
          rw [hq] at hid hget
          have HQ := Lib.hid hq
          have HN0 := Lib.hid hn0
          have HCS1 := Lib.hid hcs1
          have HM1 := Lib.hid hm1
          have HID := Lib.hid hid
          have HGET := Lib.hid hget
          have HII := Lib.hid hii
          have hn0' : n0 ≤ 4096 := by omega
          clear hq hn0 hcs1 hm1 hid hget hii
          go_wp2_with fail
          refine (name_any w0 wr wa.heap.size f rb q n0 t cs cs1 S r hL.out HN0.out (by omega) (by omega) hle (by omega) (by omega) HQ.out HCS1.out).mono ?_
          rintro e w2 ⟨rfl, S1, r1, n1, hl1, hn1, hd1⟩
          have HL1 := Lib.hid hl1
          have HN1 := Lib.hid hn1
          have hr1a : reg ≤ r1 ∧ r1 ≤ r + 1 ∧ n1 ≤ n0 + 1 := by rcases hd1 with ⟨_, h1, h2⟩ | ⟨_, h1, h2⟩ <;> omega
          have c1 := (hl1.reg.cell 0).trans rfl
          clear hl1 hn1 hd1
          go_wp2_with fail
          refine (count_at w0 w2 wa.heap.size f rb m1 cs1 S1 r1 HL1.out HM1.out).mono ?_
          rintro e w' ⟨rfl, rfl⟩
          go_wp2_with fail
          refine (code_at w0 w2 wa.heap.size f rb n1 cs1 S1 r1 HL1.out HN1.out).mono ?_
          rintro e w3 ⟨g3, c3, rfl, _, _, hl3, _⟩
          have HL3 := Lib.hid hl3
          clear hl3
          go_wp2_with fail
          refine (name_any w0 w3 wa.heap.size f rb q n1 t cs1 cs1 S1 r1 HL3.out HN1.out (by omega) (by omega) hle (by omega) (by omega) HID.out HII.out).mono ?_
          rintro e w4 ⟨rfl, S2, r2, n2, hl4, hn2, hd2⟩
          have HL4 := Lib.hid hl4
          have HN2 := Lib.hid hn2
          have HD2 := Lib.hid hd2
          have c4 := (hl4.reg.cell 0).trans rfl
          clear hl4 hn2 hd2
          go_wp2_with fail
          refine (count_at w0 w4 wa.heap.size f rb m1 cs1 S2 r2 HL4.out HM1.out).mono ?_
          rintro e w' ⟨rfl, rfl⟩
          go_wp2_with fail
          refine (constIs_at w0 w4 wa.heap.size f rb q t cs1 S2 r2 HL4.out HGET.out).mono ?_
          rintro e w' ⟨rfl, rfl⟩
          have hfin : Hid (Below wz.heap.size wz w4) := HBA.out.trans ((HBB.out.trans HL4.out.below).mono HBA.out.size)
          by_cases hq2 : q ≤ 255
          · obtain ⟨rfl, rfl⟩ : n2 = n1 ∧ r2 = r1 := by rcases HD2.out with ⟨_, h1, h2⟩ | ⟨h, _⟩; exact ⟨h1, h2⟩; omega
            go_wp2_with fail
            refine (code_at w0 w4 wa.heap.size f rb n2 cs1 S2 r2 HL4.out HN2.out).mono ?_
            rintro e w5 ⟨g5, c5, rfl, _, _, _, qd, rfl⟩
            go_wp2_with fail
            go_ret
            exact ⟨rfl, below_drewN hfin.out _⟩
          · obtain ⟨rfl, rfl⟩ : n2 = n1 + 1 ∧ r2 = r1 + 1 := by rcases HD2.out with ⟨h, _⟩ | ⟨_, h1, h2⟩; omega; exact ⟨h1, h2⟩
            go_wp2_with fail
            refine (code_at w0 w4 wa.heap.size f rb (n1 + 1) cs1 S2 (r1 + 1) HL4.out HN2.out).mono ?_
            rintro e w5 ⟨g5, c5, rfl, _, _, _, qd, rfl⟩
            go_wp2_with fail
            go_ret
            exact ⟨rfl, below_drewN hfin.out _⟩
end Go.Proofs.YtofbdaicahngfaaFmt
