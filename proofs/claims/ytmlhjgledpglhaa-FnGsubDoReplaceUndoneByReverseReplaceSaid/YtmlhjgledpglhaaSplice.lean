/-
  The law: strGsubDoReplace returns the left-to-right splice.
-/
import Derived.Test.YtmlhjgledpglhaaSp
namespace Go.Proofs.Ytmlhjgledpglhaa
open Go.RowKit
set_option linter.unusedVariables false

/-- What the two laws know behind their checks. -/
structure Okk (s : ByteArray) (n : Nat) (ss es : List Int) (rs : List ByteArray) : Prop where
  s1 : s.size ≤ 65536
  n1 : n ≤ 4096
  sz : szs rs ≤ 1048576
  l1 : ss.length = n
  l2 : es.length = n
  l3 : rs.length = n
  ok : ∀ i, i < n → okE s.size ss es i

theorem Okk.wf {s : ByteArray} {n : Nat} {ss es : List Int} {rs : List ByteArray} (h : Okk s n ss es rs) : gwf (bs s) (spansOf ss es rs n) := spans_wf h.l1 h.l2 h.l3 (by rw [bs_length]; exact h.ok)
theorem Okk.at_ {s : ByteArray} {n : Nat} {ss es : List Int} {rs : List ByteArray} (h : Okk s n ss es rs) (i : Nat) (x : Span) (hx : (spansOf ss es rs n)[i]? = some x) : ss[i]? = some (x.1 : Int) ∧ es[i]? = some (x.2.1 : Int) ∧ ∃ z, rs[i]? = some z ∧ bs z = x.2.2 := spans_at h.l1 h.l2 h.l3 h.ok i x hx
theorem Okk.accl {s : ByteArray} {n : Nat} {ss es : List Int} {rs : List ByteArray} (h : Okk s n ss es rs) (k : Nat) (hk : k ≤ n) : (gacc (bs s) ((spansOf ss es rs n).take k)).1.length ≤ (gacc (bs s) ((spansOf ss es rs n).take k)).2 + 1048576 ∧ (gacc (bs s) ((spansOf ss es rs n).take k)).2 ≤ s.size := by
  have h1 := gacc_len h.wf (fun i x hx => (h.at_ i x hx).2.2) k (by rw [spans_len]; exact hk)
  have h2 := szs_le rs k
  have h3 := gacc_pos h.wf k (by rw [spans_len]; exact hk)
  rw [bs_length] at h3
  have := h.sz
  omega

set_option maxHeartbeats 2000000 in
set_option maxRecDepth 100000 in
theorem law_splice (s : ByteArray) (A1 : Option Addr) (n1 c1 : Nat) (ss : List Int) (A2 : Option Addr) (n2 c2 : Nat) (es : List Int) (A3 : Option Addr) (n3 c3 : Nat) (rs : List ByteArray) (w : World) (hs : s.size ≤ maxLen)
    (g1 : Arg w A1 n1 c1 (ss.map (Value.int .i64))) (r1 : ∀ x ∈ ss, -9223372036854775808 ≤ x ∧ x ≤ 9223372036854775807) (g2 : Arg w A2 n2 c2 (es.map (Value.int .i64))) (r2 : ∀ x ∈ es, -9223372036854775808 ≤ x ∧ x ≤ 9223372036854775807)
    (g3 : Arg w A3 n3 c3 (rs.map Value.string)) (r3 : ∀ x ∈ rs, x.size ≤ maxLen) :
    Calls Try.prog 9 #[.string s, .slice A1 n1 c1, .slice A2 n2 c2, .slice A3 n3 c3] w fun e w' => e = .returned (.bool true) ∧ Below w.heap.size w w' := by
  have hs' : s.size ≤ 9223372036854775807 := by unfold maxLen at hs; omega
  have m1 : n1 ≤ 9223372036854775807 := by have h1 := g1.2.1; have h2 := g1.2.2.1; unfold maxLen at h2; omega
  have m2 : n2 ≤ 9223372036854775807 := by have h1 := g2.2.1; have h2 := g2.2.2.1; unfold maxLen at h2; omega
  have m3 : n3 ≤ 9223372036854775807 := by have h1 := g3.2.1; have h2 := g3.2.2.1; unfold maxLen at h2; omega
  have G1 := Lib.hid g1
  have G2 := Lib.hid g2
  have G3 := Lib.hid g3
  have R3 := Lib.hid r3
  clear g1 g2 g3 r1 r2 r3 hs
  obtain ⟨i1', hi1, hz1, hs1, hb1⟩ := info_parts info5
  go_enter Try.func9, Try.ntmps9
  go_wp2_with fail
  refine (bytes27_c s A1 A2 A3 n1 c1 n2 c2 n3 c3 rs w hs' m1 m2 m3 G3.out R3.out).mono ?_; rintro e w' ⟨b, rfl, rfl, hbz⟩
  cases b
  · go_wp2_with fail
    go_ret
    exact ⟨rfl, Below.refl _ _⟩
  have BZ := Lib.hid (hbz rfl)
  clear hbz
  go_wp2_with fail
  refine (big_c s A1 A2 A3 n1 c1 n2 c2 n3 c3 rs w hs' m1 m2 m3 G3.out BZ.out).mono ?_; rintro e w' ⟨b, rfl, rfl, hbb⟩
  obtain rfl | rfl : b = true ∨ b = false := by cases b <;> simp
  · go_wp2_with fail
    go_ret
    exact ⟨rfl, Below.refl _ _⟩
  obtain ⟨k1, k2, k3, k4, k5⟩ := hbb rfl
  clear hbb
  go_wp2_with fail
  refine (form_c s A1 A2 A3 n1 c1 n2 c2 n3 c3 ss es w k1 k2 k3 k4 G1.out G2.out).mono ?_; rintro e w' ⟨b, rfl, ⟨q, rfl⟩, hbf⟩
  cases b
  · go_wp2_with fail
    go_ret
    exact ⟨rfl, below_drewN (Below.refl _ _) _⟩
  obtain ⟨rfl, rfl, hok⟩ := hbf rfl
  clear hbf
  have K : Hid (Okk s n1 ss es rs) := ⟨k1, k2, k5, by have := G1.out.1; rw [List.length_map] at this; exact this, by have := G2.out.1; rw [List.length_map] at this; exact this, by have := G3.out.1; rw [List.length_map] at this; exact this, hok⟩
  clear hok k5 m1 m2 m3
  have W1 : Hid (Below w.heap.size w (w.drewN q)) := below_drewN (Below.refl _ _) _
  have G1' := Lib.hid (G1.out.below W1.out)
  have G2' := Lib.hid (G2.out.below W1.out)
  have G3' := Lib.hid (G3.out.below W1.out)
  have HL := Lib.hid (bs_length s)
  have hSL := spans_len ss es rs n1
  have HWF := Lib.hid K.out.wf
  have HAT := Lib.hid K.out.at_
  have HAC := Lib.hid K.out.accl
  obtain ⟨L, hL⟩ : ∃ L, L = spansOf ss es rs n1 := ⟨_, rfl⟩
  rw [← hL] at HWF HAT HAC hSL
  have HSL := Lib.hid hSL
  clear hL hSL
  generalize w.drewN q = w1 at *
  go_wp2_with fail
  refine (info_c A1 A2 A3 n1 c1 c2 c3 ss es rs w1 G1'.out G2'.out G3'.out k2 L HSL.out HAT.out).mono ?_; rintro e w2 ⟨p, rfl, hI, b2⟩
  have HI := Lib.hid hI
  have W2 := Lib.hid (W1.out.trans (b2.mono W1.out.size))
  clear hI b2
  go_wp2_with fail
  refine (gsub30_c s p n1 L w2 HI.out HWF.out (by omega) k2 (fun k hk => by have := HAC.out k hk; omega)).mono ?_; rintro e w3 ⟨g, rfl, hg, b3⟩
  have HG := Lib.hid hg
  have hgz : g.size ≤ 4194304 := by
    have h1 := HAC.out n1 (Nat.le_refl _)
    rw [List.take_of_length_le (by rw [HSL.out]; exact Nat.le_refl _)] at h1
    have h2 : (bs g).length = (gs (bs s) L).length := by rw [HG.out]
    have h3 := gbuf_len (S := bs s) (a := gacc (bs s) L) (by rw [HL.out]; omega)
    rw [bs_length] at h2
    rw [gs_gbuf] at h2
    rw [HL.out] at h3
    omega
  have W3 := Lib.hid (W2.out.trans (b3.mono W2.out.size))
  clear hg b3
  have hmk : ∀ W : World, (Instr.makeSlice 27 (.int .i64 0) (.int .i64 (s.size : Int))).run Try.prog W = .ok (.slice (some ⟨W.heap.size, 0, none⟩) 0 s.size) (W.alloc (.cells (madeCells #[.int .u8 0] s.size) 5)) :=
    fun W => run_make_cap 27 5 (.int .u8 0) 1 Try.underlying27 info5 rfl s.size (by omega) (by omega) W
  go_wp2_with fail
  have R0 : Hid ((w3.alloc (.cells (madeCells #[.int .u8 0] s.size) 5)).ownsRow w.heap.size 5 1 (.slice (some ⟨w3.heap.size, 0, none⟩) 0 s.size) 0 (u8s (gacc (bs s) (L.take 0)).1)) := own_made (base := w.heap.size) w3 5 (.int .u8 0) s.size rfl W3.out.size (by unfold maxLen; omega)
  have W4 : Hid (Below w.heap.size w (w3.alloc (.cells (madeCells #[.int .u8 0] s.size) 5))) := W3.out.alloc W3.out.size _
  clear hmk
  generalize w3.alloc (.cells (madeCells #[.int .u8 0] s.size) 5) = w4 at *
  generalize w3.heap.size = g0 at *
  go_loopw [10, 11, 12] (fun ov pv i wr => ∃ (k m g c : Nat) (x : Int), k ≤ n1 ∧ i = .int .i64 k ∧ pv = .int .i64 x ∧ ov = .slice (some ⟨g, 0, none⟩) m c ∧ Hid (x = ((gacc (bs s) (L.take k)).2 : Int)) ∧ Hid (wr.ownsRow w.heap.size 5 1 (.slice (some ⟨g, 0, none⟩) m c) m (u8s (gacc (bs s) (L.take k)).1)) ∧ Hid (Below w.heap.size w wr)) (fun _ _ i _ => n1 - (intOf i).toNat)
  case atStart => exact ⟨0, 0, g0, s.size, 0, Nat.zero_le _, rfl, rfl, rfl, Lib.hid (by simp [gacc]), R0.out, W4.out⟩
  case round =>
    obtain ⟨k, m, gg, c, x, hk, rfl, rfl, rfl, hx, hR, hB⟩ := hrel
    by_cases hlt : k < n1
    · obtain ⟨y, hy⟩ : ∃ y, L[k]? = some y := ⟨L[k]'(by rw [HSL.out]; exact hlt), List.getElem?_eq_getElem _⟩
      obtain ⟨ha, hb, z, hz, hzy⟩ := HAT.out k y hy
      obtain ⟨d1, d2, d3⟩ := HWF.out k y hy
      rw [HL.out] at d3
      have d4 := HAC.out k hk
      have HY := Lib.hid (gacc_take (bs s) hy)
      have hxx := hx.out
      have CA : Hid (∀ wr, Below w.heap.size w wr → ∃ b1 o1, A1 = some ⟨b1, o1, none⟩ ∧ wr.cell? ⟨b1, o1 + k, none⟩ = some (.int .i64 (y.1 : Int))) := Lib.hid (fun wr hB => by
        obtain ⟨b1, o1, e, _, hc1⟩ := (G1.out.below hB).2.2.2.2 (by omega)
        exact ⟨b1, o1, e, hc1 k _ (by rw [List.getElem?_map, ha]; rfl)⟩)
      have CB : Hid (∀ wr, Below w.heap.size w wr → ∃ b1 o1, A2 = some ⟨b1, o1, none⟩ ∧ wr.cell? ⟨b1, o1 + k, none⟩ = some (.int .i64 (y.2.1 : Int))) := Lib.hid (fun wr hB => by
        obtain ⟨b1, o1, e, _, hc1⟩ := (G2.out.below hB).2.2.2.2 (by omega)
        exact ⟨b1, o1, e, hc1 k _ (by rw [List.getElem?_map, hb]; rfl)⟩)
      have CC : Hid (∀ wr, Below w.heap.size w wr → ∃ b1 o1, A3 = some ⟨b1, o1, none⟩ ∧ wr.cell? ⟨b1, o1 + k, none⟩ = some (.string z)) := Lib.hid (fun wr hB => by
        obtain ⟨b1, o1, e, _, hc1⟩ := (G3.out.below hB).2.2.2.2 (by omega)
        exact ⟨b1, o1, e, hc1 k _ (by rw [List.getElem?_map, hz]; rfl)⟩)
      have zl : z.size ≤ 1048576 := BZ.out z (List.mem_of_getElem? hz)
      have HZY := Lib.hid hzy
      have i0 : (0 : Int) ≤ (k : Int) := by omega
      have i1 : (k : Int) < (n1 : Int) := by omega
      generalize gacc (bs s) (L.take k) = a at *
      obtain ⟨P, D⟩ := a
      simp only at d1 d4 hxx hR hx
      obtain rfl : x = (D : Int) := hxx
      have hml : m = P.length := by have := hR.out.1; rw [u8s_len] at this; omega
      subst hml
      clear hy ha hb hz hzy hx
      go_wp2_with fail
      go_loopw [10, 13] (fun ov jv wr => ∃ (t m' g' c' : Nat), D + t ≤ y.1 ∧ jv = .int .i64 ((D + t : Nat) : Int) ∧ ov = .slice (some ⟨g', 0, none⟩) m' c' ∧ m' ≤ 1310720 ∧ Hid (m' = P.length + t) ∧ Hid (wr.ownsRow w.heap.size 5 1 (.slice (some ⟨g', 0, none⟩) m' c') m' (u8s (P ++ ((bs s).drop D).take t))) ∧ Hid (Below w.heap.size w wr)) (fun _ jv _ => y.1 - (intOf jv).toNat)
      case atStart => exact ⟨0, P.length, gg, c, by omega, rfl, rfl, by omega, Lib.hid rfl, Lib.hid (by simpa using hR.out), hB.out⟩
      case round =>
        obtain ⟨t, m', g', c', ht, rfl, rfl, hmb, hm', hR', hB'⟩ := hrel
        obtain ⟨b1, o1, rfl, ck1⟩ := CA.out wr hB'.out
        have hrl := hR'.out.lt g' rfl
        have hws : w.heap.size ≤ wr.heap.size := hB'.out.size
        by_cases hlt1 : D + t < y.1
        · obtain ⟨v, hv, _⟩ := bs_some (s := s) (k := D + t) (by omega)
          have X1 := run_at hv
          have HV := Lib.hid (drop_take_snoc hv)
          have j0 : (0 : Int) ≤ ((D + t : Nat) : Int) := by omega
          have j1 : ((D + t : Nat) : Int) < (y.1 : Int) := by omega
          have j2 : ((D + t : Nat) : Int) < (s.size : Int) := by omega
          clear hv
          have hm4 : m' + 1 ≤ 1310720 := by have := hm'.out; omega
          generalize hDt : D + t = d at *
          have HDt := Lib.hid hDt
          clear hDt
          go_wp2_with (at_builtin; go_must (refine wpList_append_lies _ rfl (.tmp 58) (.tmp 62) _ rfl w.heap.size 5 i1' _ 1 1 Try.underlying27 hi1 hz1 hs1 hb1 rfl (by omega) (.slice (some ⟨g', 0, none⟩) m' c') m' (u8s (P ++ ((bs s).drop D).take t)) rfl (hR'.out.alloc _) ⟨wr.heap.size, 0, none⟩ 1 1 [.int .u8 (v : Int)] rfl rfl (World.news_of_block (cs := #[.int .u8 (v : Int)]) (t := 5) (fr := (0, 0)) (heap_alloc_new wr _)) (by simp [Value.oneCell']) (by omega) (by unfold maxLen; omega) (by omega) (by simp; omega) (wr.heap.size + 1) (by simp) ?_))
          intro gg2 cap2 w5 hown5 hgrow5 hat5 hlt5
          have H5 := Lib.hid hown5
          have B5 : Hid (Below w.heap.size w w5) := (hB'.out.alloc hws _).grown hgrow5 (by simp; omega) (fun j hj => by simp [Value.ownBlock] at hj; omega)
          clear hown5 hgrow5 hat5
          go_wp2_with fail
          go_roundw
          case rel => exact ⟨t + 1, m' + 1, gg2, cap2, by have := HDt.out; omega, by have := HDt.out; congr 1; omega, rfl, hm4, Lib.hid (by have := hm'.out; omega), Lib.hid (by rw [HV.out, ← List.append_assoc, u8s_app]; exact H5.out), B5.out⟩
          case measure => simp [intOf]; omega
        · have htq : t = y.1 - D := by omega
          have hdt : D + t = y.1 := by omega
          rw [hdt]
          obtain ⟨b3, o3, rfl, ck3⟩ := CC.out wr hB'.out
          have hE : ((bs s).drop D).take t = ((bs s).drop D).take (y.1 - D) := by rw [htq]
          rw [hE] at hR'
          generalize hQ : P ++ ((bs s).drop D).take (y.1 - D) = Q at *
          have hml' : m' = Q.length := by have := hR'.out.1; rw [u8s_len] at this; omega
          have hQl : Q.length ≤ 1310720 := by omega
          have HQ := Lib.hid hQ
          have HMM := Lib.hid hml'
          clear hQ hE htq hdt hm' hml'
          have zl64 : z.size ≤ 9223372036854775807 := by omega
          go_wp2_with fail
          go_loopw [10, 15] (fun ov jv wr => ∃ (t m' g' c' : Nat), t ≤ z.size ∧ jv = .int .i64 (t : Int) ∧ ov = .slice (some ⟨g', 0, none⟩) m' c' ∧ m' ≤ 2400000 ∧ Hid (m' = Q.length + t) ∧ Hid (wr.ownsRow w.heap.size 5 1 (.slice (some ⟨g', 0, none⟩) m' c') m' (u8s (Q ++ (bs z).take t))) ∧ Hid (Below w.heap.size w wr)) (fun _ jv _ => z.size - (intOf jv).toNat)
          case atStart => exact ⟨0, m', g', c', Nat.zero_le _, rfl, rfl, by omega, HMM.out, Lib.hid (by simpa using hR'.out), hB'.out⟩
          case round =>
            obtain ⟨t, m', g', c', ht, rfl, rfl, hmb, hm', hR', hB'⟩ := hrel
            have hrl := hR'.out.lt g' rfl
            have hws : w.heap.size ≤ wr.heap.size := hB'.out.size
            by_cases hlt1 : t < z.size
            · obtain ⟨v, hv, _⟩ := bs_some (s := z) (k := t) hlt1
              have X1 := run_at hv
              have HV := Lib.hid (take_snoc_some hv)
              have j0 : (0 : Int) ≤ (t : Int) := by omega
              have j1 : (t : Int) < (z.size : Int) := by omega
              have hm4 : m' + 1 ≤ 2400000 := by have := hm'.out; omega
              clear hv
              go_wp2_with (at_builtin; go_must (refine wpList_append_lies _ rfl (.tmp 74) (.tmp 78) _ rfl w.heap.size 5 i1' _ 1 1 Try.underlying27 hi1 hz1 hs1 hb1 rfl (by omega) (.slice (some ⟨g', 0, none⟩) m' c') m' (u8s (Q ++ (bs z).take t)) rfl (hR'.out.alloc _) ⟨wr.heap.size, 0, none⟩ 1 1 [.int .u8 (v : Int)] rfl rfl (World.news_of_block (cs := #[.int .u8 (v : Int)]) (t := 5) (fr := (0, 0)) (heap_alloc_new wr _)) (by simp [Value.oneCell']) (by omega) (by unfold maxLen; omega) (by omega) (by simp; omega) (wr.heap.size + 1) (by simp) ?_))
              intro gg2 cap2 w5 hown5 hgrow5 hat5 hlt5
              have H5 := Lib.hid hown5
              have B5 : Hid (Below w.heap.size w w5) := (hB'.out.alloc hws _).grown hgrow5 (by simp; omega) (fun j hj => by simp [Value.ownBlock] at hj; omega)
              clear hown5 hgrow5 hat5
              go_wp2_with fail
              go_roundw
              case rel => exact ⟨t + 1, m' + 1, gg2, cap2, by omega, by go_num, rfl, hm4, Lib.hid (by have := hm'.out; omega), Lib.hid (by rw [HV.out, ← List.append_assoc, u8s_app]; exact H5.out), B5.out⟩
              case measure => simp [intOf]; omega
            · obtain rfl : t = z.size := by omega
              obtain ⟨b2, o2, rfl, ck2⟩ := CB.out wr hB'.out
              have hfin : Hid (Q ++ (bs z).take z.size = (gacc (bs s) (L.take (k + 1))).1) := Lib.hid (by
                have e1 : (bs z).take z.size = bs z := List.take_of_length_le (by rw [bs_length]; exact Nat.le_refl _)
                rw [HY.out, ← HQ.out, e1, HZY.out]
                rfl)
              have hfin2 : Hid ((y.2.1 : Int) = ((gacc (bs s) (L.take (k + 1))).2 : Int)) := Lib.hid (by rw [HY.out]; rfl)
              go_wp2_with fail
              go_roundw
              case rel => exact ⟨k + 1, m', g', c', _, by omega, by go_num, rfl, rfl, hfin2.out, Lib.hid (by rw [← hfin.out]; exact hR'.out), hB'.out⟩
              case measure => simp [intOf]; omega
    · obtain rfl : k = n1 := by omega
      have hlk : L.take k = L := List.take_of_length_le (by rw [HSL.out]; exact Nat.le_refl _)
      have d4 := HAC.out k (Nat.le_refl _)
      rw [hlk] at d4 hR hx
      have HGG : Hid (bs g = (gacc (bs s) L).1 ++ (bs s).drop (gacc (bs s) L).2) := Lib.hid (by rw [HG.out]; rfl)
      generalize gacc (bs s) L = a at *
      obtain ⟨P, D⟩ := a
      simp only at d4 hR HGG
      have hxx := hx.out
      simp only at hxx
      obtain rfl : x = (D : Int) := hxx
      have hml : m = P.length := by have := hR.out.1; rw [u8s_len] at this; omega
      subst hml
      clear hx hlk
      go_wp2_with fail
      go_loopw [10, 16] (fun ov jv wr => ∃ (t d m' g' c' : Nat), d ≤ s.size ∧ jv = .int .i64 (d : Int) ∧ ov = .slice (some ⟨g', 0, none⟩) m' c' ∧ m' ≤ 2400000 ∧ Hid (m' = P.length + t ∧ d = D + t) ∧ Hid (wr.ownsRow w.heap.size 5 1 (.slice (some ⟨g', 0, none⟩) m' c') m' (u8s (P ++ ((bs s).drop D).take t))) ∧ Hid (Below w.heap.size w wr)) (fun _ jv _ => s.size - (intOf jv).toNat)
      case atStart => exact ⟨0, D, P.length, gg, c, by omega, rfl, rfl, by omega, Lib.hid ⟨rfl, rfl⟩, Lib.hid (by simpa using hR.out), hB.out⟩
      case round =>
        obtain ⟨t, d, m', g', c', ht, rfl, rfl, hmb, hm', hR', hB'⟩ := hrel
        have hrl := hR'.out.lt g' rfl
        have hws : w.heap.size ≤ wr.heap.size := hB'.out.size
        by_cases hlt1 : d < s.size
        · obtain ⟨v, hv, _⟩ := bs_some (s := s) (k := d) hlt1
          have X1 := run_at hv
          have HV := Lib.hid (drop_take_snoc (S := bs s) (p := D) (t := t) (x := v) (by rw [← hm'.out.2]; exact hv))
          have j0 : (0 : Int) ≤ (d : Int) := by omega
          have j1 : (d : Int) < (s.size : Int) := by omega
          have hm4 : m' + 1 ≤ 2400000 := by have := hm'.out; omega
          clear hv
          go_wp2_with (at_builtin; go_must (refine wpList_append_lies _ rfl (.tmp 91) (.tmp 95) _ rfl w.heap.size 5 i1' _ 1 1 Try.underlying27 hi1 hz1 hs1 hb1 rfl (by omega) (.slice (some ⟨g', 0, none⟩) m' c') m' (u8s (P ++ ((bs s).drop D).take t)) rfl (hR'.out.alloc _) ⟨wr.heap.size, 0, none⟩ 1 1 [.int .u8 (v : Int)] rfl rfl (World.news_of_block (cs := #[.int .u8 (v : Int)]) (t := 5) (fr := (0, 0)) (heap_alloc_new wr _)) (by simp [Value.oneCell']) (by omega) (by unfold maxLen; omega) (by omega) (by simp; omega) (wr.heap.size + 1) (by simp) ?_))
          intro gg2 cap2 w5 hown5 hgrow5 hat5 hlt5
          have H5 := Lib.hid hown5
          have B5 : Hid (Below w.heap.size w w5) := (hB'.out.alloc hws _).grown hgrow5 (by simp; omega) (fun j hj => by simp [Value.ownBlock] at hj; omega)
          clear hown5 hgrow5 hat5
          go_wp2_with fail
          go_roundw
          case rel => exact ⟨t + 1, d + 1, m' + 1, gg2, cap2, by omega, by go_num, rfl, hm4, Lib.hid (by have := hm'.out; omega), Lib.hid (by rw [HV.out, ← List.append_assoc, u8s_app]; exact H5.out), B5.out⟩
          case measure => simp [intOf]; omega
        · have hds : d = s.size := by omega
          subst hds
          have hA : Hid (Arg wr (some ⟨g', 0, none⟩) m' c' (u8s (bs g))) := Lib.hid (by
            have h := own_arg hR'.out
            have e1 : ((bs s).drop D).take t = (bs s).drop D := List.take_of_length_le (by rw [List.length_drop, HL.out]; have := hm'.out; omega)
            rw [e1, ← HGG.out] at h
            exact h)
          go_wp2_with fail
          refine (eqStr_c g _ _ _ wr hgz hA.out).mono ?_; rintro e w' ⟨rfl, q9, rfl⟩
          go_wp2_with fail
          go_ret
          exact ⟨rfl, below_drewN hB'.out _⟩
end Go.Proofs.Ytmlhjgledpglhaa
