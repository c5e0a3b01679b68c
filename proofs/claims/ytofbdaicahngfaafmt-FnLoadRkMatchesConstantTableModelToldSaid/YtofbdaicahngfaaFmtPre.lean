/-
  The walks through the laws' own byte counts; the load's contract in its two cases; the walk through zzLoadAndName.
-/
import Derived.Test.YtofbdaicahngfaaFmtLoadS
import Derived.Outline
namespace Go.Proofs.YtofbdaicahngfaaFmt
open Go.RowKit
set_option linter.unusedVariables false

def SomeB (w : World) (e : Ending) (w' : World) : Prop := ∃ b, e = .returned (.bool b) ∧ w = w'
theorem SomeB.mk {w : World} (b : Bool) : SomeB w (.returned (.bool b)) w := ⟨b, rfl, rfl⟩

set_option maxRecDepth 100000 in
theorem bytes5_c (a : Int) (A : Option Addr) (n c : Nat) (rs : List ByteArray) (w : World) (m : n ≤ 9223372036854775807) (h : Arg w A n c (rs.map Value.string)) (hz : ∀ z ∈ rs, z.size ≤ maxLen) : Calls Tryf.prog 5 #[.slice A n c, .int .i64 a] w (SomeB w) := by
  have H := Lib.hid h
  have HZ := Lib.hid hz
  clear h hz
  go_enter Tryf.func5, Tryf.ntmps5
  go_wp2
  any_goals (go_ret; exact SomeB.mk _)
  go_loopw [5, 6] (fun t i wr => ∃ k z : Nat, k ≤ n ∧ i = .int .i64 k ∧ t = .int .i64 z ∧ z ≤ 1048576 ∧ wr = w) (fun _ i _ => n - (intOf i).toNat)
  case atStart => exact ⟨0, n, Nat.zero_le _, rfl, by go_num, by omega, rfl⟩
  case round =>
    obtain ⟨k, z, hk, rfl, rfl, hz, rfl⟩ := hrel
    by_cases hlt : k < n
    · obtain ⟨x, hx⟩ : ∃ x, rs[k]? = some x := ⟨rs[k]'(by have := H.out.1; rw [List.length_map] at this; omega), List.getElem?_eq_getElem _⟩
      obtain ⟨b, off, rfl, hb, hc⟩ := H.out.2.2.2.2 (by omega)
      have ck : wr.cell? ⟨b, off + k, none⟩ = some (.string x) := hc k _ (by rw [List.getElem?_map, hx]; rfl)
      have xs : x.size ≤ 9223372036854775807 := by have := HZ.out x (List.mem_of_getElem? hx); unfold maxLen at this; omega
      have i0 : (0 : Int) ≤ (k : Int) := by omega
      have i1 : (k : Int) < (n : Int) := by omega
      clear hx hc
      by_cases h1 : x.size ≤ 1048576
      · by_cases h2 : z + x.size ≤ 1048576
        · go_wp2
          go_roundw
          case rel => exact ⟨k + 1, z + x.size, by omega, by go_num, by go_num, h2, by first | rfl | trivial⟩
          case measure => simp [intOf]; omega
        · have h2' : 1048576 < z + x.size := by omega
          clear h2
          go_wp2
          go_ret
          exact SomeB.mk _
      · have h1' : 1048576 < x.size := by omega
        clear h1
        go_wp2
        go_ret
        exact SomeB.mk _
    · obtain rfl : k = n := by omega
      go_wp2
      go_ret
      exact SomeB.mk _

set_option maxRecDepth 100000 in
theorem bytes15_c (a : Int) (t : ByteArray) (A : Option Addr) (n c : Nat) (rs : List ByteArray) (w : World) (m : n ≤ 9223372036854775807) (h : Arg w A n c (rs.map Value.string)) (hz : ∀ z ∈ rs, z.size ≤ maxLen) (ht : t.size ≤ maxLen) : Calls Tryf.prog 15 #[.slice A n c, .string t, .int .i64 a] w (SomeB w) := by
  have H := Lib.hid h
  have HZ := Lib.hid hz
  have ht' : t.size ≤ 9223372036854775807 := by unfold maxLen at ht; omega
  clear h hz ht
  go_enter Tryf.func15, Tryf.ntmps15
  go_wp2
  any_goals (go_ret; exact SomeB.mk _)
  go_loopw [7, 8] (fun t i wr => ∃ k z : Nat, k ≤ n ∧ i = .int .i64 k ∧ t = .int .i64 z ∧ z ≤ 1048576 ∧ wr = w) (fun _ i _ => n - (intOf i).toNat)
  case atStart => exact ⟨0, n, Nat.zero_le _, rfl, by go_num, by omega, rfl⟩
  case round =>
    obtain ⟨k, z, hk, rfl, rfl, hz, rfl⟩ := hrel
    by_cases hlt : k < n
    · obtain ⟨x, hx⟩ : ∃ x, rs[k]? = some x := ⟨rs[k]'(by have := H.out.1; rw [List.length_map] at this; omega), List.getElem?_eq_getElem _⟩
      obtain ⟨b, off, rfl, hb, hc⟩ := H.out.2.2.2.2 (by omega)
      have ck : wr.cell? ⟨b, off + k, none⟩ = some (.string x) := hc k _ (by rw [List.getElem?_map, hx]; rfl)
      have xs : x.size ≤ 9223372036854775807 := by have := HZ.out x (List.mem_of_getElem? hx); unfold maxLen at this; omega
      have i0 : (0 : Int) ≤ (k : Int) := by omega
      have i1 : (k : Int) < (n : Int) := by omega
      clear hx hc
      by_cases h1 : x.size ≤ 1048576
      · by_cases h2 : z + x.size ≤ 1048576
        · go_wp2
          go_roundw
          case rel => exact ⟨k + 1, z + x.size, by omega, by go_num, by go_num, h2, by first | rfl | trivial⟩
          case measure => simp [intOf]; omega
        · have h2' : 1048576 < z + x.size := by omega
          clear h2
          go_wp2
          go_ret
          exact SomeB.mk _
      · have h1' : 1048576 < x.size := by omega
        clear h1
        go_wp2
        go_ret
        exact SomeB.mk _
    · obtain rfl : k = n := by omega
      by_cases h1 : t.size ≤ 1048576
      · by_cases h2 : z + t.size ≤ 1048576
        · go_wp2
          go_ret
          exact SomeB.mk _
        · have h2' : 1048576 < z + t.size := by omega
          clear h2
          go_wp2
          go_ret
          exact SomeB.mk _
      · have h1' : 1048576 < t.size := by omega
        clear h1
        go_wp2
        go_ret
        exact SomeB.mk _

/-- What the context and the register are behind a load. -/
structure Loaded (w w' : World) (B f rb : Nat) (cs : List ByteArray) (S : List Int) (r : Int) : Prop where
  ctx : ∃ L', FC w' B f cs S L'
  reg : Blk w' rb 3 #[.int .i64 r]
  below : Below B w w'
  far : FarC w w' f rb
  out : ¬ Uses w' f rb

theorem load_small (w : World) (B f rb q : Nat) (s : ByteArray) (cs : List ByteArray) (S L : List Int) (r : Int) (h : FC w B f cs S L) (hmax : cs.length < 8192) (hSm : S.length < 1048576) (hr : Blk w rb 3 #[.int .i64 r]) (hB : B ≤ rb) (hu : ¬ Uses w f rb) (h0 : 0 ≤ r) (h1 : r ≤ 131072)
    (hq : idx cs s = q) (hq2 : q ≤ 255) :
    Calls Tryf.prog 9 #[.pointer (some ⟨f, 0, none⟩), .pointer (some ⟨rb, 0, none⟩), .string s] w fun e w' => e = .returned (.int .i64 ((q : Int) + 256)) ∧ Loaded w w' B f rb (ins cs s) S r := by
  subst hq
  refine (load_c w B f rb s cs S L r h hmax hSm hr hB hu h0 h1).mono ?_
  rintro e w' ⟨rfl, h1, h2, h3, h4, h5⟩
  rw [nextS, if_pos hq2] at h1
  rw [nextR, if_pos hq2] at h2
  exact ⟨by rw [outR, if_pos hq2], h1, h2, h3, h4, h5⟩
theorem load_big (w : World) (B f rb q : Nat) (s : ByteArray) (cs : List ByteArray) (S L : List Int) (r x : Int) (h : FC w B f cs S L) (hmax : cs.length < 8192) (hSm : S.length < 1048576) (hr : Blk w rb 3 #[.int .i64 r]) (hB : B ≤ rb) (hu : ¬ Uses w f rb) (h0 : 0 ≤ r) (h1 : r ≤ 131072)
    (hq : idx cs s = q) (hq2 : ¬ q ≤ 255) (hx : x = 134217728 + r % 256 * 262144 + (q : Int)) :
    Calls Tryf.prog 9 #[.pointer (some ⟨f, 0, none⟩), .pointer (some ⟨rb, 0, none⟩), .string s] w fun e w' => e = .returned (.int .i64 r) ∧ Loaded w w' B f rb (ins cs s) (S ++ [x]) (r + 1) := by
  subst hq hx
  refine (load_c w B f rb s cs S L r h hmax hSm hr hB hu h0 h1).mono ?_
  rintro e w' ⟨rfl, h1, h2, h3, h4, h5⟩
  rw [nextS, if_neg hq2] at h1
  rw [nextR, if_neg hq2] at h2
  exact ⟨by rw [outR, if_neg hq2], h1, h2, h3, h4, h5⟩

theorem codeN_c (w : World) (B f n : Nat) (cs : List ByteArray) (S L : List Int) (h : FC w B f cs S L) (hn : S.length = n) : Calls Tryf.prog 8 #[.pointer (some ⟨f, 0, none⟩)] w fun e w' =>
    ∃ g c q, e = .returned (.slice (some ⟨g, 0, none⟩) n c) ∧ (∀ i x, S[i]? = some x → w.cell? ⟨g, i, none⟩ = some (.int .u32 x)) ∧ w' = w.drewN q := by
  subst hn
  refine (code_c w B f cs S L h).mono ?_
  rintro e w' ⟨g, c, he, hc, q, hw⟩
  exact ⟨g, c, q, he, hc, hw⟩
end Go.Proofs.YtofbdaicahngfaaFmt
