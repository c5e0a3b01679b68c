/-
  The law: the length of the splice, and the splice undone by the reverse replacement.
-/
import Derived.Test.YtmlhjgledpglhaaSplice
import Derived.Deep.OwnRows
import Derived.StillTailTactics
namespace Go.Proofs.Ytmlhjgledpglhaa
open Go.RowKit
set_option linter.unusedVariables false

/-- The spans and texts that undo. -/
def backs (S : List Nat) (L : List Span) (n : Nat) : List Span := (List.range n).map fun i => gback S L i (L.getD i (0, 0, []))
def olds (s : ByteArray) (L : List Span) (n : Nat) : List ByteArray := (List.range n).map fun i => s.extract (L.getD i (0, 0, [])).1 (L.getD i (0, 0, [])).2.1
theorem backs_len (S : List Nat) (L : List Span) (n : Nat) : (backs S L n).length = n := by simp [backs]
theorem olds_len (s : ByteArray) (L : List Span) (n : Nat) : (olds s L n).length = n := by simp [olds]
theorem backs_at {S : List Nat} {L : List Span} {k : Nat} {x : Span} (n : Nat) (h : L[k]? = some x) (hk : k < n) : (backs S L n)[k]? = some (gback S L k x) := by
  simp [backs, hk, List.getD_eq_getElem?_getD, h]
theorem olds_at {s : ByteArray} {L : List Span} {k : Nat} {x : Span} (n : Nat) (h : L[k]? = some x) (hk : k < n) : (olds s L n)[k]? = some (s.extract x.1 x.2.1) := by
  simp [olds, hk, List.getD_eq_getElem?_getD, h]
theorem bs_extract (s : ByteArray) (a b : Nat) : bs (s.extract a b) = ((bs s).drop a).take (b - a) := by
  unfold bs
  rw [Lib.extract_data, List.map_take, List.map_drop]
theorem info3 : (Try.prog.info? 3).map (fun i => (i.zero, i.size, i.bytes)) = some (some (.int .i64 0), 1, 8) := by kernel_rfl
theorem info9 : (Try.prog.info? 9).map (fun i => (i.zero, i.size, i.bytes)) = some (some (.string ByteArray.empty), 1, 16) := by kernel_rfl
def v1 (x : Span) : Value := .int .i64 (x.1 : Int)
def v2 (x : Span) : Value := .int .i64 (x.2.1 : Int)

set_option maxHeartbeats 2000000 in
set_option maxRecDepth 100000 in
theorem law_undo (s : ByteArray) (A1 : Option Addr) (n1 c1 : Nat) (ss : List Int) (A2 : Option Addr) (n2 c2 : Nat) (es : List Int) (A3 : Option Addr) (n3 c3 : Nat) (rs : List ByteArray) (w : World) (hs : s.size ≤ maxLen)
    (g1 : Arg w A1 n1 c1 (ss.map (Value.int .i64))) (r1 : ∀ x ∈ ss, -9223372036854775808 ≤ x ∧ x ≤ 9223372036854775807) (g2 : Arg w A2 n2 c2 (es.map (Value.int .i64))) (r2 : ∀ x ∈ es, -9223372036854775808 ≤ x ∧ x ≤ 9223372036854775807)
    (g3 : Arg w A3 n3 c3 (rs.map Value.string)) (r3 : ∀ x ∈ rs, x.size ≤ maxLen) :
    Calls Try.prog 10 #[.string s, .slice A1 n1 c1, .slice A2 n2 c2, .slice A3 n3 c3] w fun e w' => e = .returned (.bool true) ∧ Below w.heap.size w w' := by
  have hs' : s.size ≤ 9223372036854775807 := by unfold maxLen at hs; omega
  have m1 : n1 ≤ 9223372036854775807 := by have h1 := g1.2.1; have h2 := g1.2.2.1; unfold maxLen at h2; omega
  have m2 : n2 ≤ 9223372036854775807 := by have h1 := g2.2.1; have h2 := g2.2.2.1; unfold maxLen at h2; omega
  have m3 : n3 ≤ 9223372036854775807 := by have h1 := g3.2.1; have h2 := g3.2.2.1; unfold maxLen at h2; omega
  have G1 := Lib.hid g1
  have G2 := Lib.hid g2
  have G3 := Lib.hid g3
  have R3 := Lib.hid r3
  clear g1 g2 g3 r1 r2 r3 hs
  obtain ⟨i1', hi1, hz1, hs1, hb1⟩ := info_parts info5
  go_enter Try.func10, Try.ntmps10
  go_wp2_with fail
  refine (bytes33_c s A1 A2 A3 n1 c1 n2 c2 n3 c3 rs w hs' m1 m2 m3 G3.out R3.out).mono ?_; rintro e w' ⟨b, rfl, rfl, hbz⟩
  cases b
  · go_wp2_with fail
    go_ret
    exact ⟨rfl, Below.refl _ _⟩
  have BZ := Lib.hid (hbz rfl)
  clear hbz
  go_wp2_with fail
  refine (big_c s A1 A2 A3 n1 c1 n2 c2 n3 c3 rs w hs' m1 m2 m3 G3.out BZ.out).mono ?_; rintro e w' ⟨b, rfl, rfl, hbb⟩
  obtain rfl | rfl : b = true ∨ b = false := by cases b <;> simp
  · go_wp2_with fail
    go_ret
    exact ⟨rfl, Below.refl _ _⟩
  obtain ⟨k1, k2, k3, k4, k5⟩ := hbb rfl
  clear hbb
  go_wp2_with fail
  refine (form_c s A1 A2 A3 n1 c1 n2 c2 n3 c3 ss es w k1 k2 k3 k4 G1.out G2.out).mono ?_; rintro e w' ⟨b, rfl, ⟨q, rfl⟩, hbf⟩
  cases b
  · go_wp2_with fail
    go_ret
    exact ⟨rfl, below_drewN (Below.refl _ _) _⟩
  obtain ⟨rfl, rfl, hok⟩ := hbf rfl
  clear hbf
  have K : Hid (Okk s n1 ss es rs) := ⟨k1, k2, k5, by have := G1.out.1; rw [List.length_map] at this; exact this, by have := G2.out.1; rw [List.length_map] at this; exact this, by have := G3.out.1; rw [List.length_map] at this; exact this, hok⟩
  clear hok k5 m1 m2 m3
  have W1 : Hid (Below w.heap.size w (w.drewN q)) := below_drewN (Below.refl _ _) _
  have G1' := Lib.hid (G1.out.below W1.out)
  have G2' := Lib.hid (G2.out.below W1.out)
  have G3' := Lib.hid (G3.out.below W1.out)
  have HL := Lib.hid (bs_length s)
  have hSL := spans_len ss es rs n1
  have HWF := Lib.hid K.out.wf
  have HAT := Lib.hid K.out.at_
  have HAC := Lib.hid K.out.accl
  obtain ⟨L, hL⟩ : ∃ L, L = spansOf ss es rs n1 := ⟨_, rfl⟩
  rw [← hL] at HWF HAT HAC hSL
  have HSL := Lib.hid hSL
  clear hL hSL
  generalize w.drewN q = w1 at *
  go_wp2_with fail
  refine (info_c A1 A2 A3 n1 c1 c2 c3 ss es rs w1 G1'.out G2'.out G3'.out k2 L HSL.out HAT.out).mono ?_; rintro e w2 ⟨p, rfl, hI, b2⟩
  have HI := Lib.hid hI
  have W2 := Lib.hid (W1.out.trans (b2.mono W1.out.size))
  clear hI b2
  go_wp2_with fail
  refine (gsub30_c s p n1 L w2 HI.out HWF.out (by omega) k2 (fun k hk => by have := HAC.out k hk; omega)).mono ?_; rintro e w3 ⟨g, rfl, hg, b3⟩
  have HG := Lib.hid hg
  have hgz : Hid ((g.size : Int) + ((gacc (bs s) L).2 : Int) = ((gacc (bs s) L).1.length : Int) + (s.size : Int)) := Lib.hid (by
    have h1 := HAC.out n1 (Nat.le_refl _)
    rw [List.take_of_length_le (by rw [HSL.out]; exact Nat.le_refl _)] at h1
    have h2 : (bs g).length = (gs (bs s) L).length := by rw [HG.out]
    have h3 := gbuf_len (S := bs s) (a := gacc (bs s) L) (by rw [HL.out]; omega)
    rw [bs_length] at h2
    rw [gs_gbuf] at h2
    rw [HL.out] at h3
    omega)
  have hgb : g.size ≤ 1114112 := by
    have h1 := HAC.out n1 (Nat.le_refl _)
    rw [List.take_of_length_le (by rw [HSL.out]; exact Nat.le_refl _)] at h1
    have := hgz.out
    omega
  have W3 := Lib.hid (W2.out.trans (b3.mono W2.out.size))
  clear hg b3
  have hmk1 := fun W => run_make_row' (P := Try.prog) 44 3 (.int .i64 0) 8 Try.underlying44 info3 rfl .i64 .i64 n1 (by omega) (by omega) W
  have hmk2 := fun W => run_make_row' (P := Try.prog) 45 9 (.string ByteArray.empty) 16 Try.underlying45 info9 rfl .i64 .i64 n1 (by omega) (by omega) W
  have RL := Lib.hid (backs_len (bs s) L n1)
  have OL := Lib.hid (olds_len s L n1)
  have RA : Hid (∀ k x, L[k]? = some x → k < n1 → (backs (bs s) L n1)[k]? = some (gback (bs s) L k x)) := Lib.hid (fun k x h hk => backs_at n1 h hk)
  have OA : Hid (∀ k x, L[k]? = some x → k < n1 → (olds s L n1)[k]? = some (s.extract x.1 x.2.1)) := Lib.hid (fun k x h hk => olds_at n1 h hk)
  generalize backs (bs s) L n1 = R at *
  generalize olds s L n1 = O at *
  have e1 := Lib.hid (fill_made n1 (.int .i64 0))
  have e2 := Lib.hid (fill_made n1 (.string ByteArray.empty))
  generalize madeCells #[.int .i64 0] n1 = C1 at *
  generalize madeCells #[.string ByteArray.empty] n1 = C2 at *
  go_wp2_with fail
  have hh := W3.out.size
  have KA : Hid (Blk (((w3.alloc (.cells C1 3)).alloc (.cells C1 3)).alloc (.cells C2 9)) w3.heap.size 3 (fillCells ((R.take 0).map v1) n1 (.int .i64 0))) := Lib.hid (by
    show Blk _ _ _ (fillCells [] n1 (.int .i64 0))
    rw [← e1.out]
    exact ((Blk.new w3 3 C1).alloc _).alloc _)
  have KB : Hid (Blk (((w3.alloc (.cells C1 3)).alloc (.cells C1 3)).alloc (.cells C2 9)) (w3.heap.size + 1) 3 (fillCells ((R.take 0).map v2) n1 (.int .i64 0))) := Lib.hid (by
    show Blk _ _ _ (fillCells [] n1 (.int .i64 0))
    rw [← e1.out]
    exact (Blk.new_at _ _ _ (by simp)).alloc _)
  have KC : Hid (Blk (((w3.alloc (.cells C1 3)).alloc (.cells C1 3)).alloc (.cells C2 9)) (w3.heap.size + 1 + 1) 9 (fillCells ((O.take 0).map Value.string) n1 (.string ByteArray.empty))) := Lib.hid (by
    show Blk _ _ _ (fillCells [] n1 (.string ByteArray.empty))
    rw [← e2.out]
    exact Blk.new_at _ _ _ (by simp))
  have W4 : Hid (Below w.heap.size w (((w3.alloc (.cells C1 3)).alloc (.cells C1 3)).alloc (.cells C2 9))) := ((W3.out.alloc W3.out.size _).alloc (by simp; omega) _).alloc (by simp; omega) _
  clear hmk1 hmk2
  generalize ((w3.alloc (.cells C1 3)).alloc (.cells C1 3)).alloc (.cells C2 9) = w4 at *
  generalize ha : w3.heap.size = pa at *
  generalize hb : pa + 1 = pb at *
  generalize hc : pb + 1 = pc at *
  have nab : ¬ pa = pb := by omega
  have nba : ¬ pb = pa := by omega
  have nac : ¬ pa = pc := by omega
  have nca : ¬ pc = pa := by omega
  have nbc : ¬ pb = pc := by omega
  have ncb : ¬ pc = pb := by omega
  have la : w.heap.size ≤ pa := hh
  have lb : w.heap.size ≤ pb := by omega
  have lc : w.heap.size ≤ pc := by omega
  clear ha hb hc hh
  go_loopw [14, 15] (fun ov i wr => ∃ (k : Nat) (o : Int), k ≤ n1 ∧ i = .int .i64 k ∧ ov = .int .i64 o ∧ Hid (o = ((gacc (bs s) (L.take k)).1.length : Int) - ((gacc (bs s) (L.take k)).2 : Int)) ∧ Hid (Blk wr pa 3 (fillCells ((R.take k).map v1) n1 (.int .i64 0))) ∧ Hid (Blk wr pb 3 (fillCells ((R.take k).map v2) n1 (.int .i64 0))) ∧
    Hid (Blk wr pc 9 (fillCells ((O.take k).map Value.string) n1 (.string ByteArray.empty))) ∧ Hid (Below w.heap.size w wr)) (fun _ i _ => n1 - (intOf i).toNat)
  case atStart => exact ⟨0, 0, Nat.zero_le _, rfl, rfl, Lib.hid (by simp [gacc]), KA.out, KB.out, KC.out, W4.out⟩
  case round =>
    obtain ⟨k, o, hk, rfl, rfl, hO, hA, hB, hC, hBel⟩ := hrel
    by_cases hlt : k < n1
    · obtain ⟨⟨s0, e0, r⟩, hx⟩ : ∃ y, L[k]? = some y := ⟨L[k]'(by rw [HSL.out]; exact hlt), List.getElem?_eq_getElem _⟩
      obtain ⟨ha, hb, z, hz, hzy⟩ := HAT.out k _ hx
      obtain ⟨d1, d2, d3⟩ := HWF.out k _ hx
      rw [HL.out] at d3
      have d4 := HAC.out k hk
      have d5 := HAC.out (k + 1) (by omega)
      have HY := Lib.hid (gacc_take (bs s) hx)
      have hR := RA.out k _ hx hlt
      have hOl := OA.out k _ hx hlt
      simp only at ha hb hzy d1 d2 d3 hOl
      have hzr : z.size = r.length := by rw [← bs_length z, hzy]
      obtain ⟨N1, hN1⟩ : ∃ N1 : Nat, N1 = (gback (bs s) L k (s0, e0, r)).1 := ⟨_, rfl⟩
      obtain ⟨N2, hN2⟩ : ∃ N2 : Nat, N2 = (gback (bs s) L k (s0, e0, r)).2.1 := ⟨_, rfl⟩
      have hN1' := hN1
      have hN2' := hN2
      unfold gback at hN1' hN2'
      simp only at hN1' hN2'
      have x1 : (s0 : Int) + o = (N1 : Int) := by have := hO.out; omega
      have y1 : (N1 : Int) + (z.size : Int) = (N2 : Int) := by omega
      have ob : -1114112 ≤ o ∧ o ≤ 1114112 := by have := hO.out; omega
      obtain ⟨o1, o2⟩ := ob
      have nb1 : N1 ≤ 2000000 := by omega
      have zb : z.size ≤ 1048576 := BZ.out z (List.mem_of_getElem? hz)
      have sN1 : Hid ((R.take (k + 1)).map v1 = (R.take k).map v1 ++ [.int .i64 (N1 : Int)]) := Lib.hid (by rw [take_snoc_some hR, List.map_append, hN1]; rfl)
      have sN2 : Hid ((R.take (k + 1)).map v2 = (R.take k).map v2 ++ [.int .i64 (N2 : Int)]) := Lib.hid (by rw [take_snoc_some hR, List.map_append, hN2]; rfl)
      have sO : Hid ((O.take (k + 1)).map Value.string = (O.take k).map Value.string ++ [.string (s.extract s0 e0)]) := Lib.hid (by rw [take_snoc_some hOl, List.map_append]; rfl)
      have lk1 : ((R.take k).map v1).length = k := by rw [List.length_map, List.length_take, RL.out]; omega
      have lk2 : ((R.take k).map v2).length = k := by rw [List.length_map, List.length_take, RL.out]; omega
      have lk3 : ((O.take k).map Value.string).length = k := by rw [List.length_map, List.length_take, OL.out]; omega
      have fa1 := fill_at ((R.take k).map v1) n1 (.int .i64 0) (by omega)
      have fa2 := fill_at ((R.take k).map v2) n1 (.int .i64 0) (by omega)
      have fa3 := fill_at ((O.take k).map Value.string) n1 (.string ByteArray.empty) (by omega)
      have fs1 := fill_set ((R.take k).map v1) n1 (.int .i64 0) (.int .i64 (N1 : Int)) (by omega)
      have fs2 := fill_set ((R.take k).map v2) n1 (.int .i64 0) (.int .i64 (N2 : Int)) (by omega)
      have fs3 := fill_set ((O.take k).map Value.string) n1 (.string ByteArray.empty) (.string (s.extract s0 e0)) (by omega)
      rw [lk1] at fa1 fs1
      rw [lk2] at fa2 fs2
      rw [lk3] at fa3 fs3
      rw [← sN1.out] at fs1
      rw [← sN2.out] at fs2
      rw [← sO.out] at fs3
      have pa0 := (hA.out.cell k).trans fa1
      have pb0 := (hB.out.cell k).trans fa2
      have pc0 := (hC.out.cell k).trans fa3
      have pf1 := hA.out.frozen k
      have pf2 := hB.out.frozen k
      have pf3 := hC.out.frozen k
      have FS := Lib.hid (And.intro fs1 (And.intro fs2 fs3))
      obtain ⟨b1, q1, rfl, hb1, hc1⟩ := G1.out.2.2.2.2 (by omega)
      obtain ⟨b2, q2, rfl, hb2, hc2⟩ := G2.out.2.2.2.2 (by omega)
      obtain ⟨b3, q3, rfl, hb3, hc3⟩ := G3.out.2.2.2.2 (by omega)
      have ck1 : wr.cell? ⟨b1, q1 + k, none⟩ = some (.int .i64 (s0 : Int)) := (hBel.out.cell (p := ⟨b1, q1 + k, none⟩) (by exact hb1)).trans (hc1 k _ (by rw [List.getElem?_map, ha]; rfl))
      have ck2 : wr.cell? ⟨b2, q2 + k, none⟩ = some (.int .i64 (e0 : Int)) := (hBel.out.cell (p := ⟨b2, q2 + k, none⟩) (by exact hb2)).trans (hc2 k _ (by rw [List.getElem?_map, hb]; rfl))
      have ck3 : wr.cell? ⟨b3, q3 + k, none⟩ = some (.string z) := (hBel.out.cell (p := ⟨b3, q3 + k, none⟩) (by exact hb3)).trans (hc3 k _ (by rw [List.getElem?_map, hz]; rfl))
      have m1 : ¬ pa = b1 := by omega
      have m2 : ¬ pb = b1 := by omega
      have m3 : ¬ pc = b1 := by omega
      have m4 : ¬ pa = b2 := by omega
      have m5 : ¬ pb = b2 := by omega
      have m6 : ¬ pc = b2 := by omega
      have m7 : ¬ pa = b3 := by omega
      have m8 : ¬ pb = b3 := by omega
      have m9 : ¬ pc = b3 := by omega
      have i0 : (0 : Int) ≤ (k : Int) := by omega
      have i1 : (k : Int) < (n1 : Int) := by omega
      have se : (s0 : Int) ≤ (e0 : Int) := by omega
      have es' : (e0 : Int) ≤ (s.size : Int) := by omega
      have hN := Lib.hid hN1'
      have hNN := Lib.hid hN2'
      have HD : Hid ((gacc (bs s) (L.take k)).2 ≤ s0 ∧ s0 ≤ e0 ∧ e0 ≤ s.size ∧ z.size = r.length) := ⟨d1, d2, d3, hzr⟩
      clear hx ha hb hz hzy hR hOl hN1 hN2 hN1' hN2' lk1 lk2 lk3 fa1 fa2 fa3 fs1 fs2 fs3 hc1 hc2 hc3 d1 d2 d3 d4 d5 hzr
      go_wp2_with fail
      have A5 := Lib.hid (FS.out.1 ▸ hA.out.set_ k (.int .i64 (N1 : Int)))
      have B5 := Lib.hid (Blk.far hB.out (p := ⟨pa, k, none⟩) nba (.int .i64 (N1 : Int)))
      have C5 := Lib.hid (Blk.far hC.out (p := ⟨pa, k, none⟩) nca (.int .i64 (N1 : Int)))
      have D5 := Lib.hid (hBel.out.setCell (p := ⟨pa, k, none⟩) la (.int .i64 (N1 : Int)))
      have pa5 := World.cell?_setCell_same wr ⟨pa, k, none⟩ (.int .i64 (N1 : Int)) pa0
      have pb5 := (World.cell?_setCell_other wr ⟨pa, k, none⟩ ⟨pb, k, none⟩ (.int .i64 (N1 : Int)) (by intro e; injection e; omega)).trans pb0
      have pc5 := (World.cell?_setCell_other wr ⟨pa, k, none⟩ ⟨pc, k, none⟩ (.int .i64 (N1 : Int)) (by intro e; injection e; omega)).trans pc0
      have cb1 := (World.cell?_setCell_other wr ⟨pa, k, none⟩ ⟨b1, q1 + k, none⟩ (.int .i64 (N1 : Int)) (by intro e; injection e; omega)).trans ck1
      have cb2 := (World.cell?_setCell_other wr ⟨pa, k, none⟩ ⟨b2, q2 + k, none⟩ (.int .i64 (N1 : Int)) (by intro e; injection e; omega)).trans ck2
      have cb3 := (World.cell?_setCell_other wr ⟨pa, k, none⟩ ⟨b3, q3 + k, none⟩ (.int .i64 (N1 : Int)) (by intro e; injection e; omega)).trans ck3
      have pf5 := B5.out.frozen k
      clear pa0 pb0 pc0 ck1 ck2 ck3 pf1 pf2 pf3
      generalize wr.setCell ⟨pa, k, none⟩ (.int .i64 (N1 : Int)) = w5 at *
      have tw1 : IntKind.i64.wrap ((N1 : Int) + (z.size : Int)) = (N2 : Int) := by rw [y1]; exact IntWalk.i64_in _ (by omega)
      go_still_tail 13, (by kernel_rfl)
      clear tw1
      go_wp2_with fail
      have A6 := Lib.hid (Blk.far A5.out (p := ⟨pb, k, none⟩) nab (.int .i64 (N2 : Int))).drew
      have B6 := Lib.hid (FS.out.2.1 ▸ B5.out.set_ k (.int .i64 (N2 : Int))).drew
      have C6 := Lib.hid (Blk.far C5.out (p := ⟨pb, k, none⟩) ncb (.int .i64 (N2 : Int))).drew
      have D6 := Lib.hid (D5.out.setCell (p := ⟨pb, k, none⟩) lb (.int .i64 (N2 : Int))).drew
      have pc6 : (w5.setCell ⟨pb, k, none⟩ (.int .i64 (N2 : Int))).drew.cell? ⟨pc, k, none⟩ = _ := (World.cell?_setCell_other w5 ⟨pb, k, none⟩ ⟨pc, k, none⟩ (.int .i64 (N2 : Int)) (by intro e; injection e; omega)).trans pc5
      have cd1 : (w5.setCell ⟨pb, k, none⟩ (.int .i64 (N2 : Int))).drew.cell? ⟨b1, q1 + k, none⟩ = _ := (World.cell?_setCell_other w5 ⟨pb, k, none⟩ ⟨b1, q1 + k, none⟩ (.int .i64 (N2 : Int)) (by intro e; injection e; omega)).trans cb1
      have cd2 : (w5.setCell ⟨pb, k, none⟩ (.int .i64 (N2 : Int))).drew.cell? ⟨b2, q2 + k, none⟩ = _ := (World.cell?_setCell_other w5 ⟨pb, k, none⟩ ⟨b2, q2 + k, none⟩ (.int .i64 (N2 : Int)) (by intro e; injection e; omega)).trans cb2
      have cd3 : (w5.setCell ⟨pb, k, none⟩ (.int .i64 (N2 : Int))).drew.cell? ⟨b3, q3 + k, none⟩ = _ := (World.cell?_setCell_other w5 ⟨pb, k, none⟩ ⟨b3, q3 + k, none⟩ (.int .i64 (N2 : Int)) (by intro e; injection e; omega)).trans cb3
      have pf6 := C6.out.frozen k
      clear pa5 pb5 pc5 cb1 cb2 cb3 pf5 A5 B5 C5 D5
      generalize (w5.setCell ⟨pb, k, none⟩ (.int .i64 (N2 : Int))).drew = w6 at *
      go_still_tail 13, (by kernel_rfl)
      go_wp2_with fail
      have A7 := Lib.hid (Blk.far A6.out (p := ⟨pc, k, none⟩) nac (.string (s.extract s0 e0))).drew
      have B7 := Lib.hid (Blk.far B6.out (p := ⟨pc, k, none⟩) nbc (.string (s.extract s0 e0))).drew
      have C7 := Lib.hid (FS.out.2.2 ▸ C6.out.set_ k (.string (s.extract s0 e0))).drew
      have D7 := Lib.hid (D6.out.setCell (p := ⟨pc, k, none⟩) lc (.string (s.extract s0 e0))).drew
      have ce1 : (w6.setCell ⟨pc, k, none⟩ (.string (s.extract s0 e0))).drew.cell? ⟨b1, q1 + k, none⟩ = _ := (World.cell?_setCell_other w6 ⟨pc, k, none⟩ ⟨b1, q1 + k, none⟩ (.string (s.extract s0 e0)) (by intro e; injection e; omega)).trans cd1
      have ce2 : (w6.setCell ⟨pc, k, none⟩ (.string (s.extract s0 e0))).drew.cell? ⟨b2, q2 + k, none⟩ = _ := (World.cell?_setCell_other w6 ⟨pc, k, none⟩ ⟨b2, q2 + k, none⟩ (.string (s.extract s0 e0)) (by intro e; injection e; omega)).trans cd2
      have ce3 : (w6.setCell ⟨pc, k, none⟩ (.string (s.extract s0 e0))).drew.cell? ⟨b3, q3 + k, none⟩ = _ := (World.cell?_setCell_other w6 ⟨pc, k, none⟩ ⟨b3, q3 + k, none⟩ (.string (s.extract s0 e0)) (by intro e; injection e; omega)).trans cd3
      clear pc6 cd1 cd2 cd3 pf6 A6 B6 C6 D6
      generalize (w6.setCell ⟨pc, k, none⟩ (.string (s.extract s0 e0))).drew = w7 at *
      have tw2 : IntKind.i64.wrap ((e0 : Int) - (s0 : Int)) = (e0 : Int) - (s0 : Int) := IntWalk.i64_in _ (by omega)
      have tw3 : IntKind.i64.wrap ((z.size : Int) - ((e0 : Int) - (s0 : Int))) = (z.size : Int) - ((e0 : Int) - (s0 : Int)) := IntWalk.i64_in _ (by omega)
      have tw4 : IntKind.i64.wrap (o + ((z.size : Int) - ((e0 : Int) - (s0 : Int)))) = o + ((z.size : Int) - ((e0 : Int) - (s0 : Int))) := IntWalk.i64_in _ (by omega)
      have ho6 : Hid (o + ((z.size : Int) - ((e0 : Int) - (s0 : Int))) = ((gacc (bs s) (L.take (k + 1))).1.length : Int) - ((gacc (bs s) (L.take (k + 1))).2 : Int)) := Lib.hid (by
        rw [HY.out]
        unfold gstep
        simp only [List.length_append, List.length_take, List.length_drop]
        have h4 := hO.out
        have h7 := HD.out
        rw [HL.out]
        omega)
      go_quiet (fail)
      clear tw2 tw3 tw4
      go_wp2_with fail
      go_roundw
      case rel => exact ⟨k + 1, _, by omega, by go_num, rfl, ho6, A7.out, B7.out, C7.out, below_drewN D7.out _⟩
      case measure => simp [intOf]; omega
    · obtain rfl : k = n1 := by omega
      have hlk : L.take k = L := List.take_of_length_le (by rw [HSL.out]; exact Nat.le_refl _)
      rw [hlk] at hO
      have hR1 : R.take k = R := List.take_of_length_le (by rw [RL.out]; exact Nat.le_refl _)
      have hO1 : O.take k = O := List.take_of_length_le (by rw [OL.out]; exact Nat.le_refl _)
      rw [hR1] at hA hB
      rw [hO1] at hC
      have fA := fill_full (R.map v1) (.int .i64 0)
      have fB := fill_full (R.map v2) (.int .i64 0)
      have fC := fill_full (O.map Value.string) (.string ByteArray.empty)
      rw [List.length_map, RL.out] at fA fB
      rw [List.length_map, OL.out] at fC
      rw [fA] at hA
      rw [fB] at hB
      rw [fC] at hC
      have GA : Hid (Arg wr (some ⟨pa, 0, none⟩) k k ((R.map fun x => (x.1 : Int)).map (Value.int .i64))) := Lib.hid (by
        have := arg_block (n := k) hA.out (by simpa using RL.out) (by unfold maxLen; omega)
        rw [List.map_map]
        exact this)
      have GB : Hid (Arg wr (some ⟨pb, 0, none⟩) k k ((R.map fun x => (x.2.1 : Int)).map (Value.int .i64))) := Lib.hid (by
        have := arg_block (n := k) hB.out (by simpa using RL.out) (by unfold maxLen; omega)
        rw [List.map_map]
        exact this)
      have GC : Hid (Arg wr (some ⟨pc, 0, none⟩) k k (O.map Value.string)) := Lib.hid (by
        have := arg_block (n := k) hC.out (by simpa using OL.out) (by unfold maxLen; omega)
        exact this)
      have hle : Hid (∀ i x, L[i]? = some x → i < k) := Lib.hid (fun i x h => by have := (List.getElem?_eq_some_iff.1 h).1; rw [HSL.out] at this; exact this)
      have hRR : ∀ i x, L[i]? = some x → R[i]? = some (gback (bs s) L i x) := fun i x h => RA.out i x h (hle.out i x h)
      have hRl : R.length = L.length := by rw [RL.out, HSL.out]
      have WB : Hid (gwf (bs g) R) := Lib.hid (by rw [HG.out]; exact gback_wf HWF.out hRl hRR)
      have BK : Hid (gs (bs g) R = bs s) := Lib.hid (by rw [HG.out]; exact gs_back HWF.out hRl hRR)
      have LB : Hid (∀ j, j ≤ k → (gacc (bs g) (R.take j)).1.length ≤ 1114112) := Lib.hid (fun j hj => by
        rw [HG.out, gacc_back HWF.out hRl hRR j (by rw [HSL.out]; exact hj)]
        simp only [List.length_take, HL.out]
        omega)
      have IR : Hid (∀ (i : Nat) (x : Span), R[i]? = some x → (R.map fun x => (x.1 : Int))[i]? = some (x.1 : Int) ∧ (R.map fun x => (x.2.1 : Int))[i]? = some (x.2.1 : Int) ∧ ∃ z, O[i]? = some z ∧ bs z = x.2.2) := Lib.hid (fun i x h => by
        have hi : i < k := by have := (List.getElem?_eq_some_iff.1 h).1; rw [RL.out] at this; exact this
        have hLx : L[i]? = some (L[i]'(by rw [HSL.out]; exact hi)) := List.getElem?_eq_getElem _
        have h2 := hRR i _ hLx
        rw [h] at h2
        obtain rfl := Option.some.inj h2
        refine ⟨by rw [List.getElem?_map, h]; rfl, by rw [List.getElem?_map, h]; rfl, _, OA.out i _ hLx hi, ?_⟩
        rw [bs_extract]
        rfl)
      have hlen : ((g.size : Int) == (s.size : Int) + o) = true := by
        have h1 := hO.out
        have h2 := hgz.out
        simp
        omega
      have ob : -1114112 ≤ o ∧ o ≤ 1114112 := by
        have h1 := hO.out
        have h2 := HAC.out k (Nat.le_refl _)
        rw [hlk] at h2
        omega
      obtain ⟨o1, o2⟩ := ob
      clear hlk hR1 hO1 fA fB fC hRR hRl
      go_wp2_with fail
      refine (info_c (some ⟨pa, 0, none⟩) (some ⟨pb, 0, none⟩) (some ⟨pc, 0, none⟩) k k k k _ _ O wr GA.out GB.out GC.out k2 R RL.out IR.out).mono ?_; rintro e w8 ⟨p8, rfl, hI8, b8⟩
      have HI8 := Lib.hid hI8
      have W8 := Lib.hid (hBel.out.trans (b8.mono hBel.out.size))
      clear hI8 b8 hlen
      go_wp2_with fail
      refine (gsub30_c g p8 k R w8 HI8.out WB.out hgb k2 LB.out).mono ?_; rintro e w9 ⟨bk, rfl, hbk, b9⟩
      have hbs : bk = s := bs_inj (by rw [hbk, BK.out])
      subst hbs
      have W9 := Lib.hid (W8.out.trans (b9.mono W8.out.size))
      clear hbk b9
      have hfin : (bk.toList == bk.toList) = true := by simp
      go_wp2_with fail
      go_ret
      exact ⟨rfl, W9.out⟩
end Go.Proofs.Ytmlhjgledpglhaa
