/-
  The walk through strGsubDoReplace: it returns the splice.
-/
import Derived.Test.YtmlhjgledpglhaaOe
import Derived.Test.YtmlhjgledpglhaaGs
import Derived.Test.YtmlhjgledpglhaaEq
import Derived.Deep.MidRow
import Derived.Lib.SlBytesConst
import Derived.Lib.ConvBytes
import Derived.Laws.BytesArg
import Derived.Lib.SmallJoins
namespace Go.Proofs.Ytmlhjgledpglhaa
open Go.RowKit Go.Joins
set_option linter.unusedVariables false

/-- The slice (p, n) of replacements reads as the spans L. -/
structure Infos (w : World) (p n : Nat) (L : List Span) : Prop where
  len : L.length = n
  lt : p < w.heap.size
  at_ : ∀ i x, L[i]? = some x → ∃ q z, q < w.heap.size ∧ bs z = x.2.2 ∧ w.rangeAt p (i * 2) [.slice (some ⟨q, 0, none⟩) 2 2, .string z] ∧ w.cell? ⟨q, 0, none⟩ = some (.int .i64 x.1) ∧ w.cell? ⟨q, 1, none⟩ = some (.int .i64 x.2.1)

theorem Infos.below {w w' : World} {p n : Nat} {L : List Span} (h : Infos w p n L) (hb : Below w.heap.size w w') : Infos w' p n L := by
  obtain ⟨h1, h2, h3⟩ := h
  refine ⟨h1, Nat.lt_of_lt_of_le h2 hb.size, fun i x hx => ?_⟩
  obtain ⟨q, z, k1, k2, k3, k4, k5⟩ := h3 i x hx
  exact ⟨q, z, Nat.lt_of_lt_of_le k1 hb.size, k2, fun j v hv => (hb.cell (by exact h2)).trans (k3 j v hv), (hb.cell (by exact k1)).trans k4, (hb.cell (by exact k1)).trans k5⟩

theorem info64 : (Try.prog.info? 64).map (·.size) = some 2 := by kernel_rfl

theorem slc (W : World) (b N c l h : Nat) (x y : Int) (hx : x = (l : Int)) (hy : y = (h : Int)) (hl : l ≤ h) (hh : h ≤ c) :
    (Instr.slice 27 (.slice (some ⟨b, 0, none⟩) N c) (some (.int .i64 x)) (some (.int .i64 y)) none).run Try.prog W = .ok (.slice (some ⟨b, if c = l then 0 else l, none⟩) (h - l) (c - l)) W := by
  subst hx hy
  have ht' : Try.prog.underlying 27 = some (.slice (Try.prog.elem 27)) := by simp [Program.elem, Try.underlying27]
  have he : Try.prog.elem 27 = 5 := by simp [Program.elem, Try.underlying27]
  rw [run_slice_lh W 27 _ _ _ ht' .i64 .i64 _ _ (by omega) (by omega) (by omega), he, Try.sizeOf5]
  by_cases hne : c = l
  · subst hne
    simp [Result.andThen, sliced]
  · by_cases h0 : l = 0
    · subst h0
      simp [Result.andThen, sliced, Addr.add, hne]
    · simp [Result.andThen, sliced, Addr.add, hne, h0]

/-- The bytes of a string, converted, read as they did. -/
theorem arg_conv (w : World) (s : ByteArray) (hs : s.size ≤ 1114112) : Arg (Lib.bytesWorld w 5 s) (some ⟨w.heap.size, 0, none⟩) s.size (grownCap w s.size 0 5) (u8s (bs s)) := by
  refine ⟨by unfold u8s; rw [List.length_map, bs_length], grownCap_ge _ _ _ _, grownCap_le_maxLen _ _ _ _ (by unfold maxLen; omega), fun h => by simp at h, fun _ => ⟨w.heap.size, 0, rfl, by rw [Lib.bytesWorld_size]; omega, fun i u hu => ?_⟩⟩
  have hi : i < s.size := by have := (List.getElem?_eq_some_iff.1 hu).1; unfold u8s at this; rw [List.length_map, bs_length] at this; exact this
  rw [Nat.zero_add, Lib.bytesWorld_cell w 5 s i hi, ← hu]
  have e1 : s.data[i]? = some s.data[i] := Array.getElem?_eq_getElem hi
  unfold u8s bs
  simp [List.getD_eq_getElem?_getD, e1]

theorem u8s_one (Z : List Nat) : ∀ u ∈ u8s Z, u.oneCell' = true := by
  intro u hu
  obtain ⟨z, _, rfl⟩ := List.mem_map.1 hu
  rfl
theorem u8s_len (Z : List Nat) : (u8s Z).length = Z.length := by unfold u8s; rw [List.length_map]
theorem u8s_app (Y Z : List Nat) : u8s (Y ++ Z) = u8s Y ++ u8s Z := by unfold u8s; rw [List.map_append]
theorem cells_bs (z : ByteArray) : Lib.strCells z = u8s (bs z) := by simp [Lib.strCells, u8s, bs]
theorem gfold_mem (S : List Nat) : ∀ (L : List Span) (a : List Nat × Nat) (x : Nat), x ∈ (L.foldl (gstep S) a).1 → x ∈ a.1 ∨ x ∈ S ∨ ∃ y ∈ L, x ∈ y.2.2
  | [], _, _, h => .inl h
  | y :: L, a, x, h => by
    rcases gfold_mem S L (gstep S a y) x h with h | h | ⟨z, hz, h⟩
    · unfold gstep at h
      simp only [List.mem_append] at h
      rcases h with (h | h) | h
      · exact .inl h
      · exact .inr (.inl (List.mem_of_mem_drop (List.mem_of_mem_take h)))
      · exact .inr (.inr ⟨y, List.mem_cons_self, h⟩)
    · exact .inr (.inl h)
    · exact .inr (.inr ⟨z, List.mem_cons_of_mem _ hz, h⟩)
theorem bs_mem {s : ByteArray} {x : Nat} (h : x ∈ bs s) : x < 256 := by
  obtain ⟨i, hi⟩ := List.mem_iff_getElem?.1 h
  exact bs_lt hi
/-- Bytes made a string. -/
theorem bs_str (Z : List Nat) (h : ∀ x ∈ Z, x < 256) : bs (strOfNums (Z.map Int.ofNat)) = Z := by
  unfold bs strOfNums
  simp only [List.map_map]
  conv => rhs; rw [← List.map_id Z]
  apply List.map_congr_left
  intro x hx
  have := h x hx
  simp
  omega
theorem Oe.read {w : World} {B g n c : Nat} {xs : List Value} (h : Oe w B g n c xs) : ∀ j u, xs[j]? = some u → w.cell? ((⟨g, 0, none⟩ : Addr).add j) = some u := by
  intro j u hu
  obtain ⟨b', o', e, _, hcell⟩ := h.arg.2.2.2.2 (by have := (List.getElem?_eq_some_iff.1 hu).1; have := h.2.2.1; omega)
  obtain ⟨rfl, rfl⟩ : g = b' ∧ 0 = o' := by simpa using e
  rw [Addr.add_lit]
  exact hcell j u hu
/-- A part of a slice of bytes is read. -/
theorem arg_read {w : World} {b N c : Nat} {Z : List Nat} (h : Arg w (some ⟨b, 0, none⟩) N c (u8s Z)) (l m l' : Nat) (hl : l + m ≤ N) (hl' : l' = if c = l then 0 else l) :
    ∀ j u, (u8s ((Z.drop l).take m))[j]? = some u → w.cell? ((⟨b, l', none⟩ : Addr).add j) = some u := by
  intro j u hu
  have hj : j < m := by have := (List.getElem?_eq_some_iff.1 hu).1; rw [u8s_len, List.length_take] at this; omega
  have hc := h.2.1
  obtain ⟨b', o', e, _, hcell⟩ := h.2.2.2.2 (by omega)
  obtain ⟨rfl, rfl⟩ : b = b' ∧ 0 = o' := by simpa using e
  rw [if_neg (by omega)] at hl'
  subst hl'
  rw [Addr.add_lit]
  have := hcell (l' + j) u (by
    unfold u8s at hu ⊢
    rw [List.getElem?_map] at hu ⊢
    rw [List.getElem?_take_of_lt hj, List.getElem?_drop] at hu
    exact hu)
  rwa [Nat.zero_add] at this

set_option maxHeartbeats 2000000 in
set_option maxRecDepth 100000 in
theorem gsub_c (s : ByteArray) (p n : Nat) (L : List Span) (w : World) (hI : Infos w p n L) (hw : gwf (bs s) L) (hs : s.size ≤ 1114112) (hn : n ≤ 4096) (hb : ∀ k, k ≤ n → (gacc (bs s) (L.take k)).1.length ≤ 1114112) :
    Calls Try.prog 48 #[.string s, .slice (some ⟨p, 0, none⟩) n n] w fun e w' => ∃ t : ByteArray, e = .returned (.string t) ∧ bs t = gs (bs s) L ∧ Below w.heap.size w w' := by
  have HI := Lib.hid hI
  have HW := Lib.hid hw
  have HB := Lib.hid hb
  have HL := Lib.hid (bs_length s)
  clear hI hw hb
  have hcv := fun W => Lib.run_convert_string_bytes (P := Try.prog) W 9 27 5 s Try.underlying9 Try.underlying27 Try.underlying5
  go_enter Try.func48, Try.ntmps48
  go_wp2
  clear hcv
  have A0 : Hid (Arg (Lib.bytesWorld w 5 s) (some ⟨w.heap.size, 0, none⟩) s.size (grownCap w s.size 0 5) (u8s (gbuf (bs s) (gacc (bs s) (L.take 0))))) := Lib.hid (arg_conv w s hs)
  have B0 : Hid (Below w.heap.size w (Lib.bytesWorld w 5 s)) := below_bytesWorld _ _ _ _ (Nat.le_refl _)
  generalize Lib.bytesWorld w 5 s = w1 at *
  generalize grownCap w s.size 0 5 = cap0 at *
  go_loopw [5, 6, 17] (fun ov bv i wr => ∃ (k b N c : Nat) (o : Int), k ≤ n ∧ i = .int .i64 k ∧ ov = .int .i64 o ∧ bv = .slice (some ⟨b, 0, none⟩) N c ∧ Hid (Arg wr (some ⟨b, 0, none⟩) N c (u8s (gbuf (bs s) (gacc (bs s) (L.take k))))) ∧
    Hid (o = ((gacc (bs s) (L.take k)).1.length : Int) - ((gacc (bs s) (L.take k)).2 : Int)) ∧ Hid (Below w.heap.size w wr)) (fun _ _ i _ => n - (intOf i).toNat)
  case atStart => exact ⟨0, w.heap.size, s.size, cap0, 0, Nat.zero_le _, rfl, rfl, rfl, A0.out, Lib.hid (by simp [gacc]), B0.out⟩
  case round =>
    obtain ⟨k, b, N, c, o, hk, rfl, rfl, rfl, hA, hO, hBel⟩ := hrel
    by_cases hlt : k < n
    · obtain ⟨x, hx⟩ : ∃ x, L[k]? = some x := ⟨L[k]'(by rw [HI.out.len]; exact hlt), List.getElem?_eq_getElem _⟩
      have HX := Lib.hid hx
      obtain ⟨d1, d2, d3⟩ := HW.out k x hx
      rw [HL.out] at d3
      have d4 := HB.out k hk
      have d5 := HB.out (k + 1) (by omega)
      have hst := gacc_take (bs s) hx
      rw [hst] at d5
      have HST := Lib.hid hst
      obtain ⟨q, z, q1, q2, q3, q4, q5⟩ := (HI.out.below hBel.out).at_ k x hx
      have r0 := q3 0 _ rfl
      have r1 := q3 1 _ rfl
      rw [Nat.add_zero] at r0
      have hNl := hA.out.1
      unfold u8s at hNl
      rw [List.length_map] at hNl
      have hgl := gbuf_len (S := bs s) (a := gacc (bs s) (L.take k)) (by rw [HL.out]; omega)
      rw [hNl, HL.out] at hgl
      have hcN := hA.out.2.1
      have hcM := hA.out.2.2.1
      generalize gacc (bs s) (L.take k) = a at *
      obtain ⟨s0, e0, r⟩ := x
      simp only at d1 d2 d3 d5 q2 q4 q5
      obtain ⟨X, hX⟩ : ∃ X : Nat, X = a.1.length + s0 - a.2 := ⟨_, rfl⟩
      obtain ⟨Y, hY⟩ : ∃ Y : Nat, Y = a.1.length + e0 - a.2 := ⟨_, rfl⟩
      have x1 : o + (s0 : Int) = (X : Int) := by have := hO.out; omega
      have y1 : o + (e0 : Int) = (Y : Int) := by have := hO.out; omega
      have o1 : -1114112 ≤ o := by have := hO.out; omega
      have o2 : o ≤ 1114112 := by have := hO.out; omega
      have k1 : X ≤ Y := by omega
      have k2 : Y ≤ N := by omega
      have k3 : N ≤ 2228224 := by omega
      have HXY : Hid (X = a.1.length + s0 - a.2 ∧ Y = a.1.length + e0 - a.2 ∧ N + a.2 = a.1.length + s.size) := ⟨hX, hY, hgl⟩
      clear hx hst hNl hgl hX hY q3
      have i0 : (0 : Int) ≤ (k : Int) := by omega
      have i1 : (k : Int) < (n : Int) := by omega
      have kc1 := Lib.run_convert_bytes_const (P := Try.prog) (wr.alloc (.cells #[.slice (some ⟨q, 0, none⟩) 2 2, .string z] 64)) 27 5 #[] 0 0 Try.underlying27 Try.underlying5
      simp only [World.size_alloc] at kc1
      have sl1 : ∀ W, (Instr.slice 27 (.slice (some ⟨b, 0, none⟩) N c) (some (.int .i64 0)) (some (.int .i64 (X : Int))) none).run Try.prog W = .ok (.slice (some ⟨b, 0, none⟩) X c) W := fun W => by
        have := slc W b N c 0 X 0 X rfl rfl (by omega) (by omega)
        simpa using this
      obtain ⟨Y', hY'⟩ : ∃ Y' : Nat, Y' = if c = Y then 0 else Y := ⟨_, rfl⟩
      have sl2 : ∀ W, (Instr.slice 27 (.slice (some ⟨b, 0, none⟩) N c) (some (.int .i64 (Y : Int))) (some (.int .i64 (N : Int))) none).run Try.prog W = .ok (.slice (some ⟨b, Y', none⟩) (N - Y) (c - Y)) W := fun W => by
        rw [hY']
        exact slc W b N c Y N Y N rfl rfl (by omega) (by omega)
      have HY' := Lib.hid hY'
      clear hY'
      have hZ : Hid ((gbuf (bs s) a).length = N) := Lib.hid (by have := hA.out.1; rw [u8s_len] at this; exact this)
      have hG : Hid (gbuf (bs s) (gstep (bs s) a (s0, e0, r)) = (gbuf (bs s) a).take X ++ r ++ (gbuf (bs s) a).drop Y) := Lib.hid (by
        rw [gbuf_step (by simpa using d1) (by simpa using d2) (by rw [HL.out]; simpa using d3), HXY.out.1, HXY.out.2.1])
      generalize gbuf (bs s) a = Z at *
      have Q2 := Lib.hid q2
      have k4 : X + z.size ≤ 1114112 := by
        have h5 := d5
        rw [gstep] at h5
        simp only [List.length_append, List.length_take, List.length_drop] at h5
        have h6 := HXY.out.1
        rw [← bs_length z, q2]
        rw [HL.out] at h5
        omega
      have b1 : Hid (Below wr.heap.size wr ((wr.alloc (.cells #[.slice (some ⟨q, 0, none⟩) 2 2, .string z] 64)).alloc (.cells #[] 5 (0, 1)))) := ((Below.refl _ _).alloc (Nat.le_refl _) _).alloc (by simp) _
      have hBs := hBel.out.size
      have o1' : Oe ((wr.alloc (.cells #[.slice (some ⟨q, 0, none⟩) 2 2, .string z] 64)).alloc (.cells #[] 5 (0, 1))) w.heap.size (wr.heap.size + 1) 0 0 [] := ⟨by omega, by simp, rfl, .inr ⟨rfl, rfl⟩⟩
      have O1 := Lib.hid o1'
      have HB1 := Lib.hid (heap_alloc_new (wr.alloc (.cells #[.slice (some ⟨q, 0, none⟩) 2 2, .string z] 64)) (.cells #[] 5 (0, 1)))
      have HD : Hid (a.2 ≤ s0 ∧ s0 ≤ e0 ∧ e0 ≤ s.size) := ⟨by simpa using d1, by simpa using d2, by simpa using d3⟩
      clear o1' q2 d1 d2 d3 d4 d5
      go_wp2_with (at_builtin; go_must (refine wpList_append_oe rfl (.tmp 24) (.tmp 32) rfl w.heap.size (wr.heap.size + 1) 0 0 [] rfl O1.out ⟨b, 0, none⟩ X c (u8s ((Z.drop 0).take X)) rfl (by rw [u8s_len, List.length_take, List.length_drop, hZ.out]; omega) (arg_read (hA.out.below b1.out) 0 X 0 (by omega) (by simp)) (u8s_one _) (by omega) (by simp; omega) ?_))
      intro g2 c2 w3 hn2 hg2 hat2
      try simp only [List.drop_zero, List.nil_append, Nat.zero_add] at hn2
      have b3 : Hid (Below wr.heap.size wr w3) := b1.out.grown hg2 (by simp; omega) (fun j hj => by cases hj; omega)
      have hs3 := hg2.size
      try simp only [World.size_alloc] at hs3
      have hbk : w3.heap[wr.heap.size]? = some (.cells #[.slice (some ⟨q, 0, none⟩) 2 2, .string z] 64 (0, 0)) := by
        rw [hg2.block wr.heap.size (by simp; omega) (by simp)]
        rw [Below.heap_alloc _ _ _ (by simp)]
        exact heap_alloc_new wr _
      have t0 : w3.cell? ⟨wr.heap.size, 0, none⟩ = some (.slice (some ⟨q, 0, none⟩) 2 2) := cell_of_row _ _ 0 _ 64 (0, 0) hbk
      have t1 : w3.cell? ⟨wr.heap.size, 1, none⟩ = some (.string z) := cell_of_row _ _ 1 _ 64 (0, 0) hbk
      have z4 : w3.cell? ⟨q, 0, none⟩ = some (.int .i64 (s0 : Int)) := (b3.out.cell (p := ⟨q, 0, none⟩) (by exact q1)).trans q4
      have z5 : w3.cell? ⟨q, 1, none⟩ = some (.int .i64 (e0 : Int)) := (b3.out.cell (p := ⟨q, 1, none⟩) (by exact q1)).trans q5
      have O2 := Lib.hid hn2
      have g2s : g2 < w3.heap.size := hn2.2.1
      have g2l : wr.heap.size + 1 ≤ g2 := by
        rcases hat2 with rfl | h
        · exact Nat.le_refl _
        · try simp only [World.size_alloc] at h
          omega
      have HBK := Lib.hid hbk
      have kc2 := Lib.run_convert_bytes_const (P := Try.prog) w3 27 5 #[] 0 0 Try.underlying27 Try.underlying5
      have b4 : Hid (Below w3.heap.size w3 (w3.alloc (.cells #[] 5 (0, 1)))) := (Below.refl _ _).alloc (Nat.le_refl _) _
      have o3 : Oe (w3.alloc (.cells #[] 5 (0, 1))) w.heap.size w3.heap.size 0 0 [] := ⟨by omega, by simp, rfl, .inr ⟨rfl, rfl⟩⟩
      have O3 := Lib.hid o3
      have hA3 := Lib.hid ((hA.out.below b3.out).below b4.out)
      have l1 : wr.heap.size < w3.heap.size := by omega
      have l2 : q < w3.heap.size := by omega
      clear hbk hn2 hg2 hat2 kc1 o3 q4 q5 r0 r1
      go_wp2_with (at_builtin; go_must (refine wpList_append_oe rfl (.tmp 46) (.tmp 51) rfl w.heap.size w3.heap.size 0 0 [] rfl O3.out ⟨b, Y', none⟩ (N - Y) (c - Y) (u8s ((Z.drop Y).take (N - Y))) rfl (by rw [u8s_len, List.length_take, List.length_drop, hZ.out]; omega) (arg_read hA3.out Y (N - Y) Y' (by omega) HY'.out) (u8s_one _) (by omega) (by simp; omega) ?_))
      intro g3 c3 w4 hn3 hg3 hat3
      try simp only [List.nil_append, Nat.zero_add] at hn3
      have hs4 := hg3.size
      try simp only [World.size_alloc] at hs4
      have b5 : Hid (Below w3.heap.size w3 w4) := b4.out.grown hg3 (by simp) (fun j hj => by cases hj; omega)
      have O2' := Lib.hid ((O2.out.grown (World.grownBy_alloc w3 (.cells #[] 5 (0, 1)) none) (by simp)).grown hg3 (by intro e; injection e; omega))
      have O4 := Lib.hid hn3
      have g3l : w3.heap.size ≤ g3 := by
        rcases hat3 with rfl | h
        · exact Nat.le_refl _
        · try simp only [World.size_alloc] at h
          omega
      have t1' : w4.cell? ⟨wr.heap.size, 1, none⟩ = some (.string z) := (b5.out.cell (p := ⟨wr.heap.size, 1, none⟩) (by exact l1)).trans t1
      clear hn3 hg3 hat3 kc2 t0 t1 z4 z5
      go_wp2_with (at_builtin; go_must (refine wpList_append_oe_string rfl (.tmp 53) (.tmp 55) rfl w.heap.size g2 X c2 (u8s (Z.take X)) rfl O2'.out z rfl (by omega) (by omega) ?_))
      intro g4 c4 w5 hn4 hg4 hat4
      have hs5 := hg4.size
      have O5 := Lib.hid hn4
      have O4' := Lib.hid (O4.out.grown hg4 (by intro e; injection e; omega))
      have b6 : Hid (Below wr.heap.size wr w5) := (b3.out.trans (b5.out.mono (by omega))).grown hg4 (by omega) (fun j hj => by cases hj; omega)
      have g4l : wr.heap.size ≤ g4 := by omega
      clear hn4 hg4 hat4 t1'
      go_wp2_with (at_builtin; go_must (refine wpList_append_oe rfl (.tmp 57) (.tmp 58) rfl w.heap.size g4 (X + z.size) c4 (u8s (Z.take X) ++ Lib.strCells z) rfl O5.out ⟨g3, 0, none⟩ (N - Y) c3 (u8s ((Z.drop Y).take (N - Y))) rfl (by rw [u8s_len, List.length_take, List.length_drop, hZ.out]; omega) O4'.out.read (u8s_one _) (by omega) (by omega) ?_))
      intro g5 c5 w6 hn5 hg5 hat5
      have b7 : Hid (Below wr.heap.size wr w6) := b6.out.grown hg5 (by omega) (fun j hj => by cases hj; omega)
      have HC6 := Lib.hid hn5.arg
      obtain ⟨M, hM⟩ : ∃ M : Nat, M = X + z.size + (N - Y) := ⟨_, rfl⟩
      rw [← hM] at HC6 ⊢
      have m1 : M ≤ 3342336 := by omega
      have HM := Lib.hid hM
      have hg6 : Hid (u8s (Z.take X) ++ (Lib.strCells z ++ u8s ((Z.drop Y).take (N - Y))) = u8s (gbuf (bs s) (gacc (bs s) (L.take (k + 1))))) := Lib.hid (by
        have e9 : (Z.drop Y).take (N - Y) = Z.drop Y := List.take_of_length_le (by rw [List.length_drop, hZ.out]; exact Nat.le_refl _)
        rw [HST.out, hG.out, cells_bs, Q2.out, e9, u8s_app, u8s_app, List.append_assoc])
      have hzr : Hid (z.size = r.length) := Lib.hid (by rw [← bs_length z, Q2.out])
      have ho6 : Hid (o + ((M : Int) - (N : Int)) = ((gacc (bs s) (L.take (k + 1))).1.length : Int) - ((gacc (bs s) (L.take (k + 1))).2 : Int)) := Lib.hid (by
        rw [HST.out]
        unfold gstep
        simp only [List.length_append, List.length_take, List.length_drop]
        have h1 := HXY.out.1
        have h2 := HXY.out.2.1
        have h3 := HXY.out.2.2
        have h4 := hO.out
        have h5 := HM.out
        have h6 := hzr.out
        have h7 := HD.out
        rw [HL.out]
        omega)
      clear hn5 hg5 hat5 hM
      go_wp2_with fail
      go_roundw
      case rel => exact ⟨k + 1, g5, M, c5, _, by omega, by go_num, rfl, rfl, Lib.hid (by rw [← hg6.out]; exact HC6.out), ho6, Lib.hid (hBel.out.trans (b7.out.mono hBs))⟩
      case measure => simp [intOf]; omega
    · obtain rfl : k = n := by omega
      have hlk : L.take k = L := List.take_of_length_le (by rw [HI.out.len]; exact Nat.le_refl _)
      rw [hlk] at hA
      have HZ2 : Hid (∀ x ∈ gbuf (bs s) (gacc (bs s) L), x < 256) := Lib.hid (by
        intro x hx
        unfold gbuf at hx
        rcases List.mem_append.1 hx with hx | hx
        · rcases gfold_mem (bs s) L ([], 0) x hx with h | h | ⟨y, hy, h⟩
          · simp at h
          · exact bs_mem h
          · obtain ⟨i, hi⟩ := List.mem_iff_getElem?.1 hy
            obtain ⟨q, z, _, q2, _⟩ := HI.out.at_ i y hi
            rw [← q2] at h
            exact bs_mem h
        · exact bs_mem (List.mem_of_mem_drop hx))
      have hcv := run_convert_bytes_arg (P := Try.prog) wr 27 5 Try.underlying27 Try.underlying5 b 0 N c ((gbuf (bs s) (gacc (bs s) L)).map Int.ofNat) (by have := hA.out.1; rw [u8s_len] at this; rw [List.length_map]; exact this) (fun i hi => by
        obtain ⟨b', o', e, _, hcell⟩ := hA.out.2.2.2.2 (by omega)
        obtain ⟨rfl, rfl⟩ : b = b' ∧ 0 = o' := by simpa using e
        have hl := hA.out.1
        rw [u8s_len] at hl
        refine hcell i _ ?_
        have hi' : i < (gbuf (bs s) (gacc (bs s) L)).length := by omega
        unfold u8s
        rw [List.getElem?_map, List.getElem?_eq_getElem hi']
        simp [List.getD_eq_getElem?_getD, hi']) 9 Try.underlying9
      go_wp2_with fail
      go_ret
      exact ⟨_, rfl, bs_str _ HZ2.out, hBel.out⟩
end Go.Proofs.Ytmlhjgledpglhaa
