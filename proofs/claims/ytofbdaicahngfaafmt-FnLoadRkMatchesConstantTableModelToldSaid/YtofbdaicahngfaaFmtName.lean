/-
  The walk through zzLoadAndName: a load, and the number of the constant that it names.
-/
import Derived.Test.YtofbdaicahngfaaFmtPre
namespace Go.Proofs.YtofbdaicahngfaaFmt
open Go.RowKit
set_option linter.unusedVariables false

theorem FarC.drewN {w w' : World} {f r : Nat} (h : FarC w w' f r) (q : Nat) : FarC w (w'.drewN q) f r := ⟨h.size, h.kept, h.grow⟩

set_option maxRecDepth 100000 in
theorem name_small (w : World) (B f rb q n : Nat) (s : ByteArray) (cs : List ByteArray) (S L : List Int) (r : Int) (h : FC w B f cs S L) (hn : S.length = n) (hmax : cs.length < 8192) (hSm : n < 1048576) (hr : Blk w rb 3 #[.int .i64 r]) (hB : B ≤ rb) (hu : ¬ Uses w f rb) (h0 : 0 ≤ r) (h1 : r ≤ 131072)
    (hq : idx cs s = q) (hq2 : q ≤ 255) :
    Calls Tryf.prog 16 #[.pointer (some ⟨f, 0, none⟩), .pointer (some ⟨rb, 0, none⟩), .string s] w fun e w' => e = .returned (.tuple #[.int .i64 q, .bool true]) ∧ Loaded w w' B f rb (ins cs s) S r := by
  have H := Lib.hid h
  have HN := Lib.hid hn
  have HR := Lib.hid hr
  have HU := Lib.hid hu
  have HQ := Lib.hid hq
  clear h hn hr hu hq
  have i0 : ¬ ((q : Int) + 256 < 256) := by omega
  go_enter Tryf.func16, Tryf.ntmps16
  go_wp2_with fail
  refine (codeN_c w B f n cs S L H.out HN.out).mono ?_
  rintro e w1 ⟨g, c, qd, rfl, hc, hw1⟩
  have H1 : Hid (FC w1 B f cs S L) := by rw [hw1]; exact H.out
  have R1 : Hid (Blk w1 rb 3 #[.int .i64 r]) := by rw [hw1]; exact HR.out
  have U1 : Hid (¬ Uses w1 f rb) := by rw [hw1]; exact HU.out
  have B1 : Hid (Below B w w1) := by rw [hw1]; exact below_drewN (Below.refl _ _) _
  have F1 : Hid (FarC w w1 f rb) := by rw [hw1]; exact (FarC.refl _ _ _).drewN _
  have c1 := (R1.out.cell 0).trans rfl
  clear hc hw1
  go_wp2_with fail
  refine (load_small w1 B f rb q s cs S L r H1.out hmax (by rw [HN.out]; exact hSm) R1.out hB U1.out h0 h1 HQ.out hq2).mono ?_
  rintro e w2 ⟨rfl, hl⟩
  have HL := Lib.hid hl
  obtain ⟨L', hfc⟩ := hl.ctx
  have HF := Lib.hid hfc
  clear hl hfc
  go_wp2_with fail
  refine (codeN_c w2 B f n (ins cs s) S L' HF.out HN.out).mono ?_
  rintro e w3 ⟨g', c', qd', rfl, hc, hw3⟩
  have c3 : w3.cell? ⟨rb, 0, none⟩ = some (.int .i64 r) := by rw [hw3]; exact (HL.out.reg.cell 0).trans rfl
  have W3 := Lib.hid hw3
  clear hc hw3
  go_wp2
  go_ret2
  refine ⟨by first | rfl | (congr 1), ?_⟩
  rw [W3.out]
  exact ⟨HL.out.ctx, HL.out.reg, below_drewN (B1.out.trans HL.out.below) _, (F1.out.trans HL.out.far).drewN _, HL.out.out⟩

theorem word_parts (r : Int) (q : Nat) (x : Int) (hq : q < 262144) (hx : x = 134217728 + r % 256 * 262144 + (q : Int)) : 0 ≤ x ∧ x ≤ 4294967295 ∧ x / 67108864 = 2 ∧ x % 262144 = (q : Int) ∧ x / 262144 % 256 = r % 256 := by
  subst hx
  have h0 : 0 ≤ r % 256 := Int.emod_nonneg _ (by decide)
  have h1 : r % 256 < 256 := Int.emod_lt_of_pos _ (by decide)
  omega

set_option maxRecDepth 100000 in
theorem name_big (w : World) (B f rb q n : Nat) (s : ByteArray) (cs : List ByteArray) (S L : List Int) (r x : Int) (h : FC w B f cs S L) (hn : S.length = n) (hmax : cs.length < 8192) (hSm : n < 1048576) (hr : Blk w rb 3 #[.int .i64 r]) (hB : B ≤ rb) (hu : ¬ Uses w f rb) (h0 : 0 ≤ r) (h1 : r ≤ 131072)
    (hq : idx cs s = q) (hq2 : ¬ q ≤ 255) (hx : x = 134217728 + r % 256 * 262144 + (q : Int)) :
    Calls Tryf.prog 16 #[.pointer (some ⟨f, 0, none⟩), .pointer (some ⟨rb, 0, none⟩), .string s] w fun e w' => e = .returned (.tuple #[.int .i64 q, .bool true]) ∧ Loaded w w' B f rb (ins cs s) (S ++ [x]) (r + 1) := by
  have hqm : q < 262144 := by have := idx_le cs s; omega
  obtain ⟨x0, x1, xo, xb, xa⟩ := word_parts r q x hqm hx
  have H := Lib.hid h
  have HN := Lib.hid hn
  have HR := Lib.hid hr
  have HU := Lib.hid hu
  have HQ := Lib.hid hq
  have HX := Lib.hid hx
  have XO := Lib.hid xo
  have XB := Lib.hid xb
  clear h hn hr hu hq hx xo xb xa
  go_enter Tryf.func16, Tryf.ntmps16
  go_wp2_with fail
  refine (codeN_c w B f n cs S L H.out HN.out).mono ?_
  rintro e w1 ⟨g, c, qd, rfl, hc, hw1⟩
  have H1 : Hid (FC w1 B f cs S L) := by rw [hw1]; exact H.out
  have R1 : Hid (Blk w1 rb 3 #[.int .i64 r]) := by rw [hw1]; exact HR.out
  have U1 : Hid (¬ Uses w1 f rb) := by rw [hw1]; exact HU.out
  have B1 : Hid (Below B w w1) := by rw [hw1]; exact below_drewN (Below.refl _ _) _
  have F1 : Hid (FarC w w1 f rb) := by rw [hw1]; exact (FarC.refl _ _ _).drewN _
  have c1 := (R1.out.cell 0).trans rfl
  clear hc hw1
  go_wp2_with fail
  refine (load_big w1 B f rb q s cs S L r x H1.out hmax (by rw [HN.out]; exact hSm) R1.out hB U1.out h0 h1 HQ.out hq2 HX.out).mono ?_
  rintro e w2 ⟨rfl, hl⟩
  have HL := Lib.hid hl
  obtain ⟨L', hfc⟩ := hl.ctx
  have HF := Lib.hid hfc
  clear hl hfc
  go_wp2_with fail
  refine (codeN_c w2 B f (n + 1) (ins cs s) (S ++ [x]) L' HF.out (by rw [List.length_append, HN.out]; rfl)).mono ?_
  rintro e w3 ⟨g', c', qd', rfl, hc, hw3⟩
  have c3 : w3.cell? ⟨rb, 0, none⟩ = some (.int .i64 (r + 1)) := by rw [hw3]; exact (HL.out.reg.cell 0).trans rfl
  have cx : w3.cell? ⟨g', n, none⟩ = some (.int .u32 x) := by rw [hw3]; exact hc n x (by rw [← HN.out]; simp)
  have W3 := Lib.hid hw3
  clear hc hw3
  have n1 : ¬ (n : Int) + 1 = (n : Int) := by omega
  have j0 : (0 : Int) ≤ (n : Int) := by omega
  have j1 : (n : Int) < (n : Int) + 1 := by omega
  go_wp2_with fail
  refine (opc_c x x0 x1 w3).mono ?_; rintro e w' ⟨rfl, rfl⟩
  rw [XO.out]
  go_wp2_with fail
  refine (bx_c x x0 x1 _).mono ?_; rintro e w' ⟨rfl, rfl⟩
  rw [XB.out]
  go_wp2
  go_ret2
  refine ⟨by first | rfl | (congr 1), ?_⟩
  rw [W3.out]
  exact ⟨HL.out.ctx, HL.out.reg, below_drewN (B1.out.trans HL.out.below) _, (F1.out.trans HL.out.far).drewN _, HL.out.out⟩
end Go.Proofs.YtofbdaicahngfaaFmt
