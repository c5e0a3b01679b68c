/-
  The walk through the export of loadRk: a string expression of its own is made for the line.
-/
import Derived.Test.YtofbdaicahngfaaFmtLoad
namespace Go.Proofs.YtofbdaicahngfaaFmt
open Go.RowKit
set_option linter.unusedVariables false

theorem newCtxS_c (w : World) (nm : ByteArray) : Calls Tryf.prog 7 #[.string nm] w fun e w' => ∃ f, e = .returned (.pointer (some ⟨f, 0, none⟩)) ∧ FC w' w.heap.size f [] [] [] ∧ Below w.heap.size w w' := by
  go_enter Tryf.func7, Tryf.ntmps7
  go_wp2_with fail
  refine (newCtx_c w nm).mono ?_; rintro e w' ⟨f, rfl, hf, hb⟩
  have HF := Lib.hid hf
  have HB := Lib.hid hb
  clear hf hb
  go_wp2_with fail
  go_ret
  exact ⟨f, rfl, HF.out, HB.out⟩

theorem load_c (w : World) (B f rb : Nat) (s : ByteArray) (cs : List ByteArray) (S L : List Int) (r : Int) (h : FC w B f cs S L) (hmax : cs.length < 8192) (hSm : S.length < 1048576) (hr : Blk w rb 3 #[.int .i64 r]) (hB : B ≤ rb) (hu : ¬ Uses w f rb) (h0 : 0 ≤ r) (h1 : r ≤ 131072) :
    Calls Tryf.prog 9 #[.pointer (some ⟨f, 0, none⟩), .pointer (some ⟨rb, 0, none⟩), .string s] w (LoadPost w B f rb s cs S r) := by
  have hb : Below w.heap.size w (w.alloc (.cells #[.int .i64 0, .int .i64 0, .string s] 60)) := (Below.refl _ _).alloc (Nat.le_refl _) _
  have hq := h.farC_below (r := rb) hb
  have H := Lib.hid hq
  have HR := Lib.hid (hr.alloc (.cells #[.int .i64 0, .int .i64 0, .string s] 60))
  have HU := Lib.hid (hq.2.out hr.lt hu)
  have HBW : Hid (Below B w (w.alloc (.cells #[.int .i64 0, .int .i64 0, .string s] 60))) := hb.mono (Nat.le_trans hB (Nat.le_of_lt hr.lt))
  have HD := Lib.hid (Blk.new w 60 #[.int .i64 0, .int .i64 0, .string s])
  clear h hr hu hb hq
  go_enter Tryf.func9, Tryf.ntmps9
  go_wp2_with fail
  refine (loadRk_c _ B f rb w.heap.size s cs S L r #[.int .i64 0, .int .i64 0, .string s] H.out.1 hmax hSm HR.out hB HU.out h0 h1 HD.out rfl).mono ?_
  rintro e w' ⟨rfl, hfc, hr', hb', hfar, hu'⟩
  have HH := Lib.hid (And.intro hfc (And.intro hr' (And.intro hb' (And.intro hfar hu'))))
  clear hfc hr' hb' hfar hu'
  go_wp2_with fail
  go_ret
  exact ⟨rfl, HH.out.1, HH.out.2.1, HBW.out.trans HH.out.2.2.1, H.out.2.trans HH.out.2.2.2.1, HH.out.2.2.2.2⟩
end Go.Proofs.YtofbdaicahngfaaFmt
