/-
  The walks through loadRk and its export: what a load of a string answers and leaves.
-/
import Derived.Test.YtofbdaicahngfaaFmtCidx
import Derived.Test.YtofbdaicahngfaaFmtLine
import Derived.StillTailTactics
namespace Go.Proofs.YtofbdaicahngfaaFmt
open Go.RowKit
set_option linter.unusedVariables false

theorem Store.fp_type {w : World} {B d b : Nat} {S L : List Int} (h : Store w B d S L) (hf : Fp w d b) : ∃ cur t, w.heap[b]? = some (.cells cur t (0, 0)) ∧ (t = 41 ∨ t = 31 ∨ t = 3) := by
  obtain ⟨g1, n1, g2, n2, ds, ls, hB2, hSL, hcl, hS, hL, hm2, hblk, ho1, ho2⟩ := h
  have y0 : w.cell? ⟨d, 0, none⟩ = some (.slice (some ⟨g1, 0, none⟩) ds.length n1) := by rw [hblk.cell]; rfl
  have y1 : w.cell? ⟨d, 1, none⟩ = some (.slice (some ⟨g2, 0, none⟩) ds.length n2) := by rw [hblk.cell]; rfl
  rcases hf with rfl | ⟨a, n, c, e', rfl⟩ | ⟨a, n, c, e', rfl⟩
  · exact ⟨_, _, hblk, by simp⟩
  · rw [y0] at e'
    obtain rfl : ⟨g1, 0, none⟩ = a := by simp at e'; exact e'.1
    obtain ⟨cur, h1, h2⟩ := own_heap ho1
    exact ⟨_, _, h1, by simp⟩
  · rw [y1] at e'
    obtain rfl : ⟨g2, 0, none⟩ = a := by simp at e'; exact e'.1
    obtain ⟨cur, h1, h2⟩ := own_heap ho2
    exact ⟨_, _, h1, by simp⟩
theorem Store.not_fp {w : World} {B d b t : Nat} {S L : List Int} {cur : Array Value} (h : Store w B d S L) (hb : w.heap[b]? = some (.cells cur t (0, 0))) (h1 : t ≠ 41) (h2 : t ≠ 31) (h3 : t ≠ 3) : ¬ Fp w d b := fun hf => by
  obtain ⟨cur', t', e, ht⟩ := h.fp_type hf
  rw [hb] at e
  have et : t = t' := (Obj.cells.inj (Option.some.inj e)).2.1
  rw [← et] at ht
  rcases ht with h | h | h
  · exact h1 h
  · exact h2 h
  · exact h3 h

/-- What one more instruction leaves of the context. -/
theorem put_code {w w1 w' : World} {B f r pb cb : Nat} {C : Array Value} {cs : List ByteArray} {S L S' L' : List Int} (hB : B ≤ f) (hf : Blk w f 50 C) (c0 : C[0]? = some (.pointer (some ⟨pb, 0, none⟩)))
    (c1 : C[1]? = some (.pointer (some ⟨cb, 0, none⟩))) (hP : Proto w B pb cs) (hS : Store w B cb S L) (hb : Below w.heap.size w w1) (hfar : Far w1 w' cb) (hS' : Store w' B cb S' L') :
    FC w' B f cs S' L' ∧ FarC w w' f r := by
  obtain ⟨g, c, C', hB', hm, hp, c8, ho⟩ := hP
  have hs1 := hS.below hb
  have z1 : w.cell? ⟨f, 1, none⟩ = some (.pointer (some ⟨cb, 0, none⟩)) := by rw [hf.cell]; exact c1
  have z0 : w.cell? ⟨f, 0, none⟩ = some (.pointer (some ⟨pb, 0, none⟩)) := by rw [hf.cell]; exact c0
  have z8 : w.cell? ⟨pb, 8, none⟩ = some (.slice (some ⟨g, 0, none⟩) cs.length c) := by rw [hp.cell]; exact c8
  obtain ⟨cur, hgh, hBg⟩ := own_heap ho
  have hglt := (Array.getElem?_eq_some_iff.1 hgh).1
  have kf := hfar.kept f (Nat.lt_of_lt_of_le hf.lt hb.size) (hs1.not_fp ((hb.block f hf.lt).trans hf) (by decide) (by decide) (by decide))
  have kp := hfar.kept pb (Nat.lt_of_lt_of_le hp.lt hb.size) (hs1.not_fp ((hb.block pb hp.lt).trans hp) (by decide) (by decide) (by decide))
  have kg := hfar.kept g (Nat.lt_of_lt_of_le hglt hb.size) (hs1.not_fp ((hb.block g hglt).trans hgh) (by decide) (by decide) (by decide))
  have kf' := kf.trans (hb.block f hf.lt)
  have kp' := kp.trans (hb.block pb hp.lt)
  have kg' := kg.trans (hb.block g hglt)
  have hcb : ∀ b, Fp w1 cb b → Fp w cb b := fun b h => h.same (hb.block cb hS.lt.2)
  refine ⟨⟨pb, cb, C, hB, kf'.trans hf, c0, c1, ⟨g, c, C', hB', hm, kp'.trans hp, c8, own_same ho kg'⟩, hS'⟩, Nat.le_trans hb.size hfar.size, fun b hlt hu hr => ?_, fun b hu => ?_⟩
  · rw [hfar.kept b (Nat.lt_of_lt_of_le hlt hb.size) (fun h => hu (.inr (.inr ⟨cb, z1, hcb b h⟩))), hb.block b hlt]
  · rcases hu with rfl | ⟨p, e, hu⟩ | ⟨d, e, hu⟩
    · exact .inl (.inl rfl)
    · rw [cell_same kf', z0] at e
      obtain rfl : pb = p := by simpa using e
      rcases hu with rfl | ⟨g', n', c', e', rfl⟩
      · exact .inl (.inr (.inl ⟨_, z0, .inl rfl⟩))
      · rw [cell_same kp'] at e'
        exact .inl (.inr (.inl ⟨pb, z0, .inr ⟨_, _, _, e', rfl⟩⟩))
    · rw [cell_same kf', z1] at e
      obtain rfl : cb = d := by simpa using e
      rcases hfar.grow b hu with h | h
      · exact .inl (.inr (.inr ⟨cb, z1, hcb b h⟩))
      · exact .inr (Nat.le_trans hb.size h)

def outR (cs : List ByteArray) (s : ByteArray) (r : Int) : Int := if idx cs s ≤ 255 then (idx cs s : Int) + 256 else r
def nextR (cs : List ByteArray) (s : ByteArray) (r : Int) : Int := if idx cs s ≤ 255 then r else r + 1
def loadK (cs : List ByteArray) (s : ByteArray) (r : Int) : Int := 134217728 + r % 256 * 262144 + (idx cs s : Int)
def nextS (cs : List ByteArray) (s : ByteArray) (r : Int) (S : List Int) : List Int := if idx cs s ≤ 255 then S else S ++ [loadK cs s r]

def LoadPost (w : World) (B f rb : Nat) (s : ByteArray) (cs : List ByteArray) (S : List Int) (r : Int) (e : Ending) (w' : World) : Prop :=
  e = .returned (.int .i64 (outR cs s r)) ∧ (∃ L', FC w' B f (ins cs s) (nextS cs s r S) L') ∧ Blk w' rb 3 #[.int .i64 (nextR cs s r)] ∧ Below B w w' ∧ FarC w w' f rb ∧ ¬ Uses w' f rb

theorem FarC.at_ {w w' : World} {f r : Nat} (h : FarC w w' f w.heap.size) : FarC w w' f r := ⟨h.size, fun b hb hu _ => h.kept b hb hu (by omega), h.grow⟩
theorem FC.not_uses {w : World} {B f b t : Nat} {cs : List ByteArray} {S L : List Int} {cur : Array Value} (h : FC w B f cs S L) (hb : w.heap[b]? = some (.cells cur t (0, 0))) (ht : t ≠ 50 ∧ t ≠ 68 ∧ t ≠ 77 ∧ t ≠ 41 ∧ t ≠ 31 ∧ t ≠ 3) : ¬ Uses w f b := fun hu => by
  obtain ⟨_, cur', t', e, ht'⟩ := h.uses hu
  rw [hb] at e
  have et : t = t' := (Obj.cells.inj (Option.some.inj e)).2.1
  rw [← et] at ht'
  obtain ⟨h1, h2, h3, h4, h5, h6⟩ := ht
  rcases ht' with h | h | h | h | h | h
  · exact h1 h
  · exact h2 h
  · exact h3 h
  · exact h4 h
  · exact h5 h
  · exact h6 h

set_option maxRecDepth 100000 in
theorem loadRk_c (w : World) (B f rb d : Nat) (s : ByteArray) (cs : List ByteArray) (S L : List Int) (r : Int) (CD : Array Value) (h : FC w B f cs S L) (hmax : cs.length < 8192) (hSm : S.length < 1048576) (hr : Blk w rb 3 #[.int .i64 r]) (hB : B ≤ rb) (hu : ¬ Uses w f rb) (h0 : 0 ≤ r) (h1 : r ≤ 131072)
    (hd : Blk w d 60 CD) (hd0 : CD[0]? = some (.int .i64 0)) :
    Calls Tryf.prog 18 #[.pointer (some ⟨f, 0, none⟩), .pointer (some ⟨rb, 0, none⟩), .iface 52 (.pointer (some ⟨d, 0, none⟩)), .iface 61 (.string s)] w (LoadPost w B f rb s cs S r) := by
  have H := Lib.hid h
  have HR := Lib.hid hr
  have HU := Lib.hid hu
  have HD := Lib.hid hd
  have HD0 := Lib.hid hd0
  have hix := idx_le cs s
  clear h hr hu hd hd0
  go_enter Tryf.func18, Tryf.ntmps18
  go_wp2_with fail
  refine (constIndex_c w B f w.heap.size s cs S L H.out (by omega)).mono ?_; rintro e w1 ⟨rfl, hfc, hb, hfar⟩
  have H1 := Lib.hid hfc
  have B1 := Lib.hid hb
  have F1 := Lib.hid (hfar.at_ (r := rb))
  have hrlt := HR.out.lt
  have r1 : Blk w1 rb 3 #[.int .i64 r] := (hfar.kept rb hrlt HU.out (by omega)).trans HR.out
  have d1 : Blk w1 d 60 CD := (hfar.kept d HD.out.lt (H.out.not_uses HD.out (by decide)) (by have := HD.out.lt; omega)).trans HD.out
  have u1 : ¬ Uses w1 f rb := hfar.out hrlt HU.out
  have R1 := Lib.hid r1
  have D1 := Lib.hid d1
  have U1 := Lib.hid u1
  have q1 := (r1.cell 0).trans rfl
  have fr1 := r1.frozen 0
  have hndr : d ≠ rb := Blk.ne_ d1 r1 (by decide)
  clear hfc hb hfar r1 d1 u1
  by_cases hk : idx cs s ≤ 255
  · have i1 : ((idx cs s : Nat) : Int) ≤ 255 := by omega
    generalize hj : idx cs s = j at *
    have HJ := Lib.hid hj
    clear hj
    go_wp2_with fail
    refine (rkAsk_c (j : Int) (by omega) i1 w1).mono ?_; rintro e w' ⟨rfl, rfl⟩
    go_wp2_with fail
    go_ret
    refine ⟨?_, ⟨L, ?_⟩, ?_, B1.out, F1.out, U1.out⟩
    · rw [outR, HJ.out, if_pos hk]; rfl
    · rw [nextS, HJ.out, if_pos hk]; exact H1.out
    · rw [nextR, HJ.out, if_pos hk]; exact R1.out
  · have i1 : ¬ ((idx cs s : Nat) : Int) ≤ 255 := by omega
    generalize hj : idx cs s = j at *
    have HJ := Lib.hid hj
    clear hj
    have hs2 := H1.out.farC_same (w' := w1.setCell ⟨rb, 0, none⟩ (.int .i64 (r + 1))) (r := rb) (by simp [World.setCell]) (fun b _ hn => Below.heap_setCell _ _ _ _ hn) U1.out
    have r2 := R1.out.set_ 0 (.int .i64 (r + 1))
    have d2 := D1.out.far (p := ⟨rb, 0, none⟩) hndr (.int .i64 (r + 1))
    have u2 := hs2.2.out R1.out.lt U1.out
    have b2 : Below B w (w1.setCell ⟨rb, 0, none⟩ (.int .i64 (r + 1))) := B1.out.setCell hB _
    have f2 := F1.out.trans hs2.2
    obtain ⟨pb, cb, C, kB, kf, k0, k1, kP, kS⟩ := hs2.1
    have z1 := (kf.cell 1).trans k1
    have LN := Lib.hid ((sline_c d (w1.setCell ⟨rb, 0, none⟩ (.int .i64 (r + 1))).drew ((d2.cell 0).trans HD0.out)).mono (R' := fun e w'' => e = .returned (.int .i64 0) ∧ w'' = (w1.setCell ⟨rb, 0, none⟩ (.int .i64 (r + 1))).drew) fun _ _ h => ⟨h.1, h.2.symm⟩)
    have R2 := Lib.hid r2
    have U2 := Lib.hid u2
    have B2 := Lib.hid b2
    have F2 := Lib.hid f2
    have KF := Lib.hid kf
    have K0 := Lib.hid k0
    have K1 := Lib.hid k1
    have KP := Lib.hid kP
    have KS := Lib.hid kS
    clear hs2 r2 d2 u2 b2 f2 kf k0 k1 kP kS
    go_wp2_with fail
    generalize w1.setCell ⟨rb, 0, none⟩ (.int .i64 (r + 1)) = w2 at *
    go_still_tail 8, (by kernel_rfl)
    still_call LN.out
    repeat still_step
    refine wpStill_nil ?_
    go_wp2_with fail
    refine (addABx_c w2.drew B cb S L r (j : Int) 0 KS.out hSm (by omega) (by omega)).mono ?_; rintro e w3 ⟨rfl, hs3, b3, w3', hb3, hf3⟩
    have HQ := Lib.hid (put_code (w := w2) (r := w2.heap.size) kB KF.out K0.out K1.out KP.out KS.out ((Below.refl _ _).drew.trans hb3) hf3 hs3)
    have B3 := Lib.hid (B2.out.drew.trans b3)
    clear hs3 b3 hb3 hf3
    go_wp2_with fail
    go_ret
    have hu3 := HQ.out.2.out R2.out.lt U2.out
    have hr3 : Blk w3 rb 3 #[.int .i64 (r + 1)] := (HQ.out.2.kept rb R2.out.lt U2.out (by have := R2.out.lt; omega)).trans R2.out
    refine ⟨?_, ⟨L ++ [0], ?_⟩, ?_, B3.out, F2.out.trans HQ.out.2.at_, hu3⟩
    · rw [outR, HJ.out, if_neg hk]; rfl
    · rw [nextS, HJ.out, if_neg hk, loadK, HJ.out]; exact HQ.out.1
    · rw [nextR, HJ.out, if_neg hk]; exact hr3
end Go.Proofs.YtofbdaicahngfaaFmt
