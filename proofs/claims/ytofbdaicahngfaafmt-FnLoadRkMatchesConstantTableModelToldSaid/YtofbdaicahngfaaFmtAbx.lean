/-
  The walk through codeStore.AddABx.
-/
import Derived.Test.YtofbdaicahngfaaFmtOp
namespace Go.Proofs.YtofbdaicahngfaaFmt
open Go.RowKit
set_option linter.unusedVariables false

theorem Store.below {w w' : World} {B d : Nat} {S L : List Int} (h : Store w B d S L) (hb : Below w.heap.size w w') : Store w' B d S L := by
  obtain ⟨g1, c1, g2, c2, cs, ls, h1, h2, h3, h4, h5, h6, h7, h8, h9⟩ := h
  have hg : w.grownBy w' none := ⟨hb.os, hb.tape, hb.output, hb.size, fun k hk _ => hb.block k hk⟩
  exact ⟨g1, c1, g2, c2, cs, ls, h1, h2, h3, h4, h5, h6, h7.below hb h7.lt, h8.kept (row := none) hg (.inr (by simp [Value.ownBlock])), h9.kept (row := none) hg (.inr (by simp [Value.ownBlock]))⟩
theorem Store.lt {w : World} {B d : Nat} {S L : List Int} (h : Store w B d S L) : B ≤ d ∧ d < w.heap.size := by
  obtain ⟨g1, c1, g2, c2, cs, ls, h1, h2, h3, h4, h5, h6, h7, h8, h9⟩ := h
  exact ⟨h1, h7.lt⟩
theorem addABx_c (w : World) (B d : Nat) (S L : List Int) (a b l : Int) (h : Store w B d S L) (hmax : S.length < 1048576) (h2 : 0 ≤ b) (h3 : b < 262144) :
    Calls Tryf.prog 25 #[.pointer (some ⟨d, 0, none⟩), .int .i64 2, .int .i64 a, .int .i64 b, .int .i64 l] w fun e w' => e = .returned (.tuple #[]) ∧ Store w' B d (S ++ [134217728 + a % 256 * 262144 + b]) (L ++ [l]) ∧ Below B w w' ∧ ∃ w1, Below w.heap.size w w1 ∧ Far w1 w' d := by
  have H := Lib.hid h
  have hlt := h.lt
  clear h
  go_enter Tryf.func25, Tryf.ntmps25
  go_wp2_with fail
  refine (opABx_c a b w h2 h3).mono ?_; rintro e w1 ⟨rfl, b1⟩
  have B1 := Lib.hid b1
  have H1 := Lib.hid (H.out.below b1)
  clear b1
  go_wp2_with fail
  refine (add_c w1 B d S L _ l H1.out hmax).mono ?_; rintro e w2 ⟨rfl, hs, b2, hf⟩
  have HS := Lib.hid hs
  have B2 := Lib.hid ((B1.out.mono (by omega)).trans b2)
  have HF := Lib.hid hf
  clear hs b2 hf
  go_wp2_with fail
  go_end0
  exact ⟨rfl, HS.out, B2.out, w1, B1.out, HF.out⟩
end Go.Proofs.YtofbdaicahngfaaFmt
