/-
  The walk through flagScanner.Next over a plain relation of what one call does.
-/
import Derived.Test.YtmlhjgledpglhaaScan
namespace Go.Proofs.Ytmlhjgledpglhaa
open Go.RowKit
set_option linter.unusedVariables false

/-- One call of Next: from (pos, has, buf) it hands back (c, eos) and leaves (pos', has', changed, buf'). -/
inductive Nx (fl : Nat) (st en : List Value) (S : List Nat) : Nat → Bool → List Value → Nat → Bool → Nat → Bool → Bool → List Value → Prop
  | eos (pos hf buf) : pos = S.length → Nx fl st en S pos hf buf 0 true pos hf false (buf ++ if hf then en else [])
  | plain (pos hf buf c) : S[pos]? = some c → c ≠ fl → Nx fl st en S pos hf buf c false (pos + 1) hf false buf
  | last (pos hf buf) : S[pos]? = some fl → pos + 1 = S.length → Nx fl st en S pos hf buf fl false (pos + 1) hf false buf
  | mark (pos hf buf d) : S[pos]? = some fl → S[pos + 1]? = some d → d ≠ fl → Nx fl st en S pos hf buf fl false (pos + 1) true true (buf ++ (if hf then en else []) ++ st)
  | pair (pos hf buf c eos pos' hf' cf' buf') : S[pos]? = some fl → S[pos + 1]? = some fl → Nx fl st en S (pos + 2) false (buf ++ [.int .u8 fl]) c eos pos' hf' cf' buf' → Nx fl st en S pos hf buf c eos pos' hf' cf' buf'

def NextPost (w : World) (B : Nat) (G : Nat × Option Obj) (f fl : Nat) (st en s : ByteArray) (buf : List Value) (pos : Nat) (hf : Bool) (e : Ending) (w' : World) : Prop :=
  ∃ c eos pos' hf' cf' buf', e = .returned (.tuple #[.int .u8 (c : Nat), .bool eos]) ∧ Nx fl (Lib.strCells st) (Lib.strCells en) (bs s) pos hf buf c eos pos' hf' cf' buf' ∧ Scan w' B G f fl st en s buf' pos' hf' cf' ∧ Below B w w'

/-- A step of the scanner's own cells. -/
theorem Scan.put8 {w : World} {B : Nat} {G : Nat × Option Obj} {f : Nat} {fl : Int} {st en s : ByteArray} {buf : List Value} {pos : Nat} {hf cf : Bool} (h : Scan w B G f fl st en s buf pos hf cf) (b : Bool) : Scan (w.setCell ⟨f, 8, none⟩ (.bool b)) B G f fl st en s buf pos hf b := by
  obtain ⟨⟨g, cap, hblk, hown, hgg⟩, hB, hG1, hG2, hG3⟩ := h
  exact ⟨⟨g, cap, hblk.set_ 8 _, own_set_blk hown hblk (by decide) 8 _, hgg⟩, hB, (Below.heap_setCell _ _ _ _ hG2).trans hG1, hG2, by simpa [World.setCell] using hG3⟩
theorem Scan.put7 {w : World} {B : Nat} {G : Nat × Option Obj} {f : Nat} {fl : Int} {st en s : ByteArray} {buf : List Value} {pos : Nat} {hf cf : Bool} (h : Scan w B G f fl st en s buf pos hf cf) (b : Bool) : Scan (w.setCell ⟨f, 7, none⟩ (.bool b)) B G f fl st en s buf pos b cf := by
  obtain ⟨⟨g, cap, hblk, hown, hgg⟩, hB, hG1, hG2, hG3⟩ := h
  exact ⟨⟨g, cap, hblk.set_ 7 _, own_set_blk hown hblk (by decide) 7 _, hgg⟩, hB, (Below.heap_setCell _ _ _ _ hG2).trans hG1, hG2, by simpa [World.setCell] using hG3⟩
theorem Scan.put6 {w : World} {B : Nat} {G : Nat × Option Obj} {f : Nat} {fl : Int} {st en s : ByteArray} {buf : List Value} {pos : Nat} {hf cf : Bool} (h : Scan w B G f fl st en s buf pos hf cf) (p : Nat) : Scan (w.setCell ⟨f, 6, none⟩ (.int .i64 p)) B G f fl st en s buf p hf cf := by
  obtain ⟨⟨g, cap, hblk, hown, hgg⟩, hB, hG1, hG2, hG3⟩ := h
  exact ⟨⟨g, cap, hblk.set_ 6 _, own_set_blk hown hblk (by decide) 6 _, hgg⟩, hB, (Below.heap_setCell _ _ _ _ hG2).trans hG1, hG2, by simpa [World.setCell] using hG3⟩
theorem Scan.drewN {w : World} {q B : Nat} {G : Nat × Option Obj} {f : Nat} {fl : Int} {st en s : ByteArray} {buf : List Value} {pos : Nat} {hf cf : Bool} (h : Scan w B G f fl st en s buf pos hf cf) : Scan (w.drewN q) B G f fl st en s buf pos hf cf := by
  obtain ⟨⟨g, cap, hblk, hown, hgg⟩, hB, hG1, hG2, hG3⟩ := h
  exact ⟨⟨g, cap, hblk, hown, hgg⟩, hB, hG1, hG2, hG3⟩

/-- The scanner's cells, as the walk reads them. -/
theorem Scan.cells {w : World} {B : Nat} {G : Nat × Option Obj} {f : Nat} {fl : Int} {st en s : ByteArray} {buf : List Value} {pos : Nat} {hf cf : Bool} (h : Scan w B G f fl st en s buf pos hf cf) :
    w.cell? ⟨f, 0, none⟩ = some (.int .u8 fl) ∧ w.cell? ⟨f, 1, none⟩ = some (.string st) ∧ w.cell? ⟨f, 2, none⟩ = some (.string en) ∧ w.cell? ⟨f, 4, none⟩ = some (.string s) ∧ w.cell? ⟨f, 5, none⟩ = some (.int .i64 s.size) ∧
    w.cell? ⟨f, 6, none⟩ = some (.int .i64 pos) ∧ w.cell? ⟨f, 7, none⟩ = some (.bool hf) ∧ w.cell? ⟨f, 8, none⟩ = some (.bool cf) ∧ w.frozen? ⟨f, 6, none⟩ = false ∧ w.frozen? ⟨f, 7, none⟩ = false ∧ w.frozen? ⟨f, 8, none⟩ = false := by
  obtain ⟨⟨g, cap, hblk, hown, hgg⟩, hB, hG1, hG2, hG3⟩ := h
  exact ⟨(hblk.cell 0).trans rfl, (hblk.cell 1).trans rfl, (hblk.cell 2).trans rfl, (hblk.cell 4).trans rfl, (hblk.cell 5).trans rfl, (hblk.cell 6).trans rfl, (hblk.cell 7).trans rfl, (hblk.cell 8).trans rfl, hblk.frozen 6, hblk.frozen 7, hblk.frozen 8⟩

theorem next_plain (w : World) (B : Nat) (G : Nat × Option Obj) (f fl : Nat) (st en s : ByteArray) (buf : List Value) (pos c : Nat) (hf cf : Bool) (h : Scan w B G f fl st en s buf pos hf cf) (hs : s.size ≤ 1048576) (hc : (bs s)[pos]? = some c) (hne : c ≠ fl) :
    Calls Try.prog 18 #[.pointer (some ⟨f, 0, none⟩)] w (NextPost w B G f fl st en s buf pos hf) := by
  have hlt : pos < s.size := by rw [← bs_length]; exact (List.getElem?_eq_some_iff.1 hc).1
  obtain ⟨p0, p1, p2, p4, p5, p6, p7, p8, f6, f7, f8⟩ := h.cells
  have X1 := run_at hc
  have HC := Lib.hid hc
  have H := Lib.hid h
  have e1 : ((pos : Int) == (s.size : Int)) = false := by simp <;> omega
  have e2 : ((c : Int) == (fl : Int)) = false := by simp <;> omega
  have i0 : (0 : Int) ≤ (pos : Int) := by omega
  clear hc h
  go_enter Try.func18, Try.ntmps18
  go_wp2
  go_quiet (fail)
  go_wp2
  go_quiet (fail)
  go_wp2
  go_ret2
  refine ⟨c, false, pos + 1, hf, false, buf, rfl, .plain _ _ _ _ HC.out hne, ?_, ?_⟩
  · exact ((H.out.put8 false).put6 (pos + 1)).drewN
  · repeat (first | exact Below.refl _ _ | refine below_drewN ?_ _ | refine Below.setCell ?_ (by exact H.out.lo) _)

theorem next_eos (w : World) (B : Nat) (G : Nat × Option Obj) (f fl : Nat) (st en s : ByteArray) (buf : List Value) (pos : Nat) (hf cf : Bool) (h : Scan w B G f fl st en s buf pos hf cf) (hs : s.size ≤ 1048576) (hst : st.size ≤ 1048576) (hen : en.size ≤ 1048576) (hbuf : buf.length ≤ 1048576) (hp : pos = s.size) :
    Calls Try.prog 18 #[.pointer (some ⟨f, 0, none⟩)] w (NextPost w B G f fl st en s buf pos hf) := by
  obtain ⟨p0, p1, p2, p4, p5, p6, p7, p8, f6, f7, f8⟩ := h.cells
  have H := Lib.hid h
  clear h
  subst hp
  have HL := Lib.hid (bs_length s)
  have e1 : ((s.size : Int) == (s.size : Int)) = true := by simp
  cases hf
  · go_enter Try.func18, Try.ntmps18
    go_wp2
    go_quiet (fail)
    go_wp2
    go_ret2
    refine ⟨0, true, s.size, false, false, buf, rfl, ?_, (H.out.put8 false).drewN, ?_⟩
    · have := Nx.eos (fl := fl) (st := Lib.strCells st) (en := Lib.strCells en) (S := bs s) s.size false buf HL.out.symm
      simpa using this
    · repeat (first | exact Below.refl _ _ | refine below_drewN ?_ _ | refine Below.setCell ?_ (by exact H.out.lo) _)
  · go_enter Try.func18, Try.ntmps18
    go_wp2
    go_quiet (fail)
    go_wp2_with fail
    refine (appendStr_c _ B G f fl st en s en buf s.size true false (H.out.put8 false).drewN (by omega) (by omega)).mono ?_; rintro e w1 ⟨rfl, h1, b1⟩
    have H1 := Lib.hid h1
    have B1 := Lib.hid b1
    clear h1 b1
    go_wp2_with fail
    go_ret2
    refine ⟨0, true, s.size, true, false, buf ++ Lib.strCells en, rfl, ?_, H1.out, ?_⟩
    · have := Nx.eos (fl := fl) (st := Lib.strCells st) (en := Lib.strCells en) (S := bs s) s.size true buf HL.out.symm
      simpa using this
    · refine Below.trans ?_ B1.out
      repeat (first | exact Below.refl _ _ | refine below_drewN ?_ _ | refine Below.setCell ?_ (by exact H.out.lo) _)

theorem next_last (w : World) (B : Nat) (G : Nat × Option Obj) (f fl : Nat) (st en s : ByteArray) (buf : List Value) (pos : Nat) (hf cf : Bool) (h : Scan w B G f fl st en s buf pos hf cf) (hs : s.size ≤ 1048576) (hst : st.size ≤ 1048576) (hen : en.size ≤ 1048576) (hbuf : buf.length ≤ 1048576) (hc : (bs s)[pos]? = some fl) (hp : pos + 1 = s.size) :
    Calls Try.prog 18 #[.pointer (some ⟨f, 0, none⟩)] w (NextPost w B G f fl st en s buf pos hf) := by
  obtain ⟨p0, p1, p2, p4, p5, p6, p7, p8, f6, f7, f8⟩ := h.cells
  have H := Lib.hid h
  clear h
  have hlt : pos < s.size := by omega
  have X1 := run_at hc
  have HC := Lib.hid hc
  have HL := Lib.hid (bs_length s)
  have e1 : ((pos : Int) == (s.size : Int)) = false := by simp <;> omega
  have e2 : ((fl : Int) == (fl : Int)) = true := by simp
  have i0 : (0 : Int) ≤ (pos : Int) := by omega
  have t1 : IntKind.i64.wrap ((s.size : Int) - 1) = (pos : Int) := by rw [show ((s.size : Int) - 1) = (pos : Int) by omega]; exact IntWalk.i64_in _ (by omega)
  have t2 : decide ((pos : Int) < (pos : Int)) = false := by simp
  clear hc
  go_enter Try.func18, Try.ntmps18
  go_wp2
  go_quiet (fail)
  go_wp2
  go_quiet (fail)
  go_wp2
  go_quiet (fail)
  go_wp2
  go_quiet (fail)
  clear t1 t2
  go_wp2
  go_ret2
  refine ⟨fl, false, pos + 1, hf, false, buf, rfl, .last _ _ _ HC.out (by rw [HL.out]; exact hp), ((H.out.put8 false).put6 (pos + 1)).drewN, ?_⟩
  repeat (first | exact Below.refl _ _ | refine below_drewN ?_ _ | refine Below.setCell ?_ (by exact H.out.lo) _)

theorem next_mark (w : World) (B : Nat) (G : Nat × Option Obj) (f fl : Nat) (st en s : ByteArray) (buf : List Value) (pos : Nat) (hf cf : Bool) (h : Scan w B G f fl st en s buf pos hf cf) (hs : s.size ≤ 1048576) (hst : st.size ≤ 1048576) (hen : en.size ≤ 1048576) (hbuf : buf.length ≤ 1048576) (d : Nat) (hc : (bs s)[pos]? = some fl) (hd : (bs s)[pos + 1]? = some d) (hne : d ≠ fl) :
    Calls Try.prog 18 #[.pointer (some ⟨f, 0, none⟩)] w (NextPost w B G f fl st en s buf pos hf) := by
  obtain ⟨p0, p1, p2, p4, p5, p6, p7, p8, f6, f7, f8⟩ := h.cells
  have H := Lib.hid h
  clear h
  have hlt : pos + 1 < s.size := by rw [← bs_length]; exact (List.getElem?_eq_some_iff.1 hd).1
  have X1 := run_at hc
  have X2 := run_at hd
  have HC := Lib.hid hc
  have HD := Lib.hid hd
  have e1 : ((pos : Int) == (s.size : Int)) = false := by simp <;> omega
  have e2 : ((fl : Int) == (fl : Int)) = true := by simp
  have i0 : (0 : Int) ≤ (pos : Int) := by omega
  have t1 : IntKind.i64.wrap ((s.size : Int) - 1) = (s.size : Int) - 1 := IntWalk.i64_in _ (by omega)
  have t2 : (pos : Int) < (s.size : Int) - 1 := by omega
  have t3 : IntKind.i64.wrap ((pos : Int) + 1) = (pos : Int) + 1 := IntWalk.i64_in _ (by omega)
  have t4 : ((pos : Int) == (s.size : Int) - 1) = false := by simp <;> omega
  simp only [Int.natCast_add, Int.cast_ofNat_Int] at X2
  clear hc hd
  have e5 : ((d : Int) == (fl : Int)) = false := by simp <;> omega
  cases hf
  · go_enter Try.func18, Try.ntmps18
    go_wp2
    go_quiet (fail)
    go_wp2
    go_quiet (fail)
    go_wp2
    go_quiet (fail)
    go_wp2
    go_quiet (fail)
    clear t1 t3
    go_wp2_with fail
    refine (appendStr_c _ B G f fl st en s st buf pos false false (H.out.put8 false).drewN (by omega) (by omega)).mono ?_; rintro e w2 ⟨rfl, h2, b2⟩
    obtain ⟨c0, c1, c2, c4, c5, c6, c7, c8, g6, g7, g8⟩ := h2.cells
    have H2 := Lib.hid h2
    have B2 : Hid (Below B w w2) := by
      refine Below.trans ?_ b2
      repeat (first | exact Below.refl _ _ | refine below_drewN ?_ _ | refine Below.setCell ?_ (by exact H.out.lo) _)
    clear h2 b2
    go_wp2_with fail
    go_ret2
    refine ⟨fl, false, pos + 1, true, true, buf ++ Lib.strCells st, rfl, ?_, ((H2.out.put8 true).put7 true).put6 (pos + 1), ?_⟩
    · have := Nx.mark (fl := fl) (st := Lib.strCells st) (en := Lib.strCells en) (S := bs s) pos false buf d HC.out HD.out hne
      simpa using this
    · exact (((B2.out.setCell (by exact H.out.lo) _).setCell (by exact H.out.lo) _).setCell (by exact H.out.lo) _)
  · go_enter Try.func18, Try.ntmps18
    go_wp2
    go_quiet (fail)
    go_wp2
    go_quiet (fail)
    go_wp2
    go_quiet (fail)
    go_wp2
    go_quiet (fail)
    clear t1 t3
    go_wp2_with fail
    refine (appendStr_c _ B G f fl st en s en buf pos true false (H.out.put8 false).drewN (by omega) (by omega)).mono ?_; rintro e w1 ⟨rfl, h1, b1⟩
    obtain ⟨a0, a1, a2, a4, a5, a6, a7, a8, j6, j7, j8⟩ := h1.cells
    have H1 := Lib.hid h1
    have B1 : Hid (Below B w w1) := by
      refine Below.trans ?_ b1
      repeat (first | exact Below.refl _ _ | refine below_drewN ?_ _ | refine Below.setCell ?_ (by exact H.out.lo) _)
    clear h1 b1
    go_wp2_with fail
    have hl1 : (buf ++ Lib.strCells en).length ≤ 2097152 := by rw [List.length_append, Lib.strCells_length]; omega
    refine (appendStr_c w1 B G f fl st en s st _ pos true false H1.out hl1 (by omega)).mono ?_; rintro e w2 ⟨rfl, h2, b2⟩
    obtain ⟨c0, c1, c2, c4, c5, c6, c7, c8, g6, g7, g8⟩ := h2.cells
    have H2 := Lib.hid h2
    have B2 := Lib.hid (B1.out.trans b2)
    clear h2 b2 hl1
    go_wp2_with fail
    go_ret2
    refine ⟨fl, false, pos + 1, true, true, buf ++ Lib.strCells en ++ Lib.strCells st, rfl, ?_, ((H2.out.put8 true).put7 true).put6 (pos + 1), ?_⟩
    · have := Nx.mark (fl := fl) (st := Lib.strCells st) (en := Lib.strCells en) (S := bs s) pos true buf d HC.out HD.out hne
      simpa using this
    · exact (((B2.out.setCell (by exact H.out.lo) _).setCell (by exact H.out.lo) _).setCell (by exact H.out.lo) _)

theorem next_c : ∀ (k : Nat) (w : World) (B : Nat) (G : Nat × Option Obj) (f fl : Nat) (st en s : ByteArray) (buf : List Value) (pos : Nat) (hf cf : Bool), Scan w B G f fl st en s buf pos hf cf → s.size ≤ 1048576 → st.size ≤ 1048576 → en.size ≤ 1048576 → pos ≤ s.size → s.size - pos ≤ k →
    buf.length + (s.size - pos) ≤ 1048576 → Calls Try.prog 18 #[.pointer (some ⟨f, 0, none⟩)] w (NextPost w B G f fl st en s buf pos hf) := by
  intro k
  induction k with
  | zero =>
    intro w B G f fl st en s buf pos hf cf h hs hst hen hp hk hbuf
    exact next_eos w B G f fl st en s buf pos hf cf h hs hst hen (by omega) (by omega)
  | succ k ih =>
    intro w B G f fl st en s buf pos hf cf h hs hst hen hp hk hbuf
    by_cases he : pos = s.size
    · exact next_eos w B G f fl st en s buf pos hf cf h hs hst hen (by omega) he
    obtain ⟨c, hc, hc2⟩ := bs_some (s := s) (k := pos) (by omega)
    by_cases hcf : c = fl
    · subst hcf
      by_cases hl : pos + 1 = s.size
      · exact next_last w B G f c st en s buf pos hf cf h hs hst hen (by omega) hc hl
      obtain ⟨d, hd, hd2⟩ := bs_some (s := s) (k := pos + 1) (by omega)
      by_cases hdf : d = c
      · subst hdf
        have IH := Lib.hid ih
        clear ih
        obtain ⟨p0, p1, p2, p4, p5, p6, p7, p8, f6, f7, f8⟩ := h.cells
        have H := Lib.hid h
        clear h hl he
        have hlt : pos + 1 < s.size := by rw [← bs_length]; exact (List.getElem?_eq_some_iff.1 hd).1
        have X1 := run_at hc
        have X2 := run_at hd
        have HC := Lib.hid hc
        have HD := Lib.hid hd
        have e1 : ((pos : Int) == (s.size : Int)) = false := by simp <;> omega
        have e2 : ((d : Int) == (d : Int)) = true := by simp
        have i0 : (0 : Int) ≤ (pos : Int) := by omega
        have t1 : IntKind.i64.wrap ((s.size : Int) - 1) = (s.size : Int) - 1 := IntWalk.i64_in _ (by omega)
        have t2 : (pos : Int) < (s.size : Int) - 1 := by omega
        have t3 : IntKind.i64.wrap ((pos : Int) + 1) = (pos : Int) + 1 := IntWalk.i64_in _ (by omega)
        have t4 : ((pos : Int) == (s.size : Int) - 1) = false := by simp <;> omega
        simp only [Int.natCast_add, Int.cast_ofNat_Int] at X2
        clear hc hd
        go_enter Try.func18, Try.ntmps18
        go_wp2
        go_quiet (fail)
        go_wp2
        go_quiet (fail)
        go_wp2
        go_quiet (fail)
        clear t1 t3
        go_wp2_with fail
        refine (appendChar_c _ B G f d d st en s buf pos false false ((H.out.put8 false).drewN.put7 false) (by omega)).mono ?_; rintro e w1 ⟨rfl, h1, b1⟩
        obtain ⟨c0, c1, c2, c4, c5, c6, c7, c8, g6, g7, g8⟩ := h1.cells
        have H1 := Lib.hid h1
        have B1 : Hid (Below B w w1) := by
          refine Below.trans ?_ b1
          repeat (first | exact Below.refl _ _ | refine below_drewN ?_ _ | refine Below.setCell ?_ (by exact H.out.lo) _)
        clear h1 b1
        go_wp2_with fail
        refine (IH.out _ B G f d st en s (buf ++ [.int .u8 (d : Int)]) (pos + 2) false false (H1.out.put6 (pos + 2)) hs hst hen (by omega) (by omega) (by rw [List.length_append]; simp; omega)).mono ?_
        rintro e w2 ⟨x, eo, pos', hf', cf', buf', rfl, hN, h2, b2⟩
        have HN := Lib.hid hN
        have H2 := Lib.hid h2
        have B2 : Hid (Below B w w2) := (B1.out.setCell (by exact H.out.lo) _).trans b2
        clear hN h2 b2
        go_wp2_with fail
        go_ret2
        exact ⟨x, eo, pos', hf', cf', buf', rfl, .pair _ _ _ _ _ _ _ _ _ HC.out HD.out HN.out, H2.out, B2.out⟩
      · exact next_mark w B G f c st en s buf pos hf cf h hs hst hen (by omega) d hc hd hdf
    · exact next_plain w B G f fl st en s buf pos c hf cf h hs hc hcf
end Go.Proofs.Ytmlhjgledpglhaa
