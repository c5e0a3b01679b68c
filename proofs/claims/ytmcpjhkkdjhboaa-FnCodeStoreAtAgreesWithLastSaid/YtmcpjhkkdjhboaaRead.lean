/-
  The walks through the code store's readers: List, PosList, At, Last; and through the laws' own comparisons of two slices.
-/
import Derived.Test.YtmcpjhkkdjhboaaAdd
namespace Go.Proofs.Ytmcpjhkkdjhboaa
open Go.RowKit
set_option linter.unusedVariables false

/-- What an owned row's first elements read as. -/
theorem arg_own {w : World} {B g n cap m : Nat} {e : TypeId} {xs ys : List Value} (h : w.ownsRow B e 1 (.slice (some ⟨g, 0, none⟩) n cap) n xs) (hp : ys <+: xs) (hm : ys.length = m) : Arg w (some ⟨g, 0, none⟩) m cap ys := by
  rcases h.2 with ⟨h', _⟩ | ⟨g', cap', cur, h', hb, hg, hnc, hcm, hcs, htake⟩
  · simp at h'
  · simp only [Value.slice.injEq, Option.some.injEq, Addr.mk.injEq, and_true, true_and] at h'
    obtain ⟨rfl, rfl⟩ := h'
    have hl := hp.length_le
    have h1 := h.1
    refine ⟨hm, by omega, hcm, fun h => by simp at h, fun _ => ⟨g, 0, rfl, (Array.getElem?_eq_some_iff.1 hg).1, fun i u hu => ?_⟩⟩
    rw [Nat.zero_add, h.cellAt i (by have := (List.getElem?_eq_some_iff.1 hu).1; omega)]
    obtain ⟨t, rfl⟩ := hp
    rw [List.getElem?_append_left (List.getElem?_eq_some_iff.1 hu).1]
    exact hu

theorem prefix_get {S cs : List Int} {i : Nat} {x : Int} (h : S <+: cs) (hx : S[i]? = some x) : cs[i]? = some x := by
  obtain ⟨t, rfl⟩ := h
  rw [List.getElem?_append_left (List.getElem?_eq_some_iff.1 hx).1]
  exact hx

theorem cap_of_own {w : World} {B g n cap : Nat} {e : TypeId} {xs : List Value} (h : w.ownsRow B e 1 (.slice (some ⟨g, 0, none⟩) n cap) n xs) : n ≤ cap ∧ cap ≤ 9223372036854775807 := by
  rcases h.2 with ⟨h', _⟩ | ⟨g', cap', cur, h', hb, hg, hnc, hcm, hcs, htake⟩
  · simp at h'
  · simp only [Value.slice.injEq, Option.some.injEq, Addr.mk.injEq, and_true, true_and] at h'
    obtain ⟨rfl, rfl⟩ := h'
    unfold maxLen at hcm
    exact ⟨hnc, by omega⟩

def ListPost (w : World) (k : IntKind) (S : List Int) (e : Ending) (w' : World) : Prop := ∃ g c q, e = .returned (.slice (some ⟨g, 0, none⟩) S.length c) ∧ Arg w (some ⟨g, 0, none⟩) S.length c (S.map (Value.int k)) ∧ w' = w.drewN q

theorem list_c (w : World) (B d : Nat) (S L : List Int) (h : Store w B d S L) : Calls Try.prog 21 #[.pointer (some ⟨d, 0, none⟩)] w (ListPost w .u32 S) := by
  obtain ⟨g1, c1, g2, c2, cs, ls, hB, hSL, hcl, hS, hL, hm, hblk, ho1, ho2⟩ := h
  have hle := hS.length_le
  have p0 : w.cell? ⟨d, 0, none⟩ = some (.slice (some ⟨g1, 0, none⟩) cs.length c1) := by rw [hblk.cell]; rfl
  have p2 : w.cell? ⟨d, 2, none⟩ = some (.int .i64 S.length) := by rw [hblk.cell]; rfl
  obtain ⟨k1, k2⟩ := cap_of_own ho1
  have HA := Lib.hid (arg_own (m := S.length) ho1 (ys := S.map (Value.int .u32)) (hS.map _) (by simp))
  clear hSL hcl hS hL hblk ho1 ho2
  generalize hkk : S.length = k at *
  have HK := Lib.hid hkk
  clear hkk
  generalize cs.length = n at *
  have i0 : (0 : Int) ≤ (k : Int) := by omega
  have i1 : (k : Int) ≤ (c1 : Int) := by omega
  go_enter Try.func21, Try.ntmps21
  go_wp2
  go_quiet (fail)
  go_wp2
  go_ret
  obtain rfl := HK.out
  exact ⟨g1, c1, _, rfl, HA.out, rfl⟩

theorem at_c (w : World) (B d : Nat) (S L : List Int) (i : Nat) (x : Int) (h : Store w B d S L) (hx : S[i]? = some x) :
    Calls Try.prog 28 #[.pointer (some ⟨d, 0, none⟩), .int .i64 i] w fun e w' => e = .returned (.int .u32 x) ∧ w = w' := by
  obtain ⟨g1, c1, g2, c2, cs, ls, hB, hSL, hcl, hS, hL, hm, hblk, ho1, ho2⟩ := h
  have hle := hS.length_le
  have hi := (List.getElem?_eq_some_iff.1 hx).1
  have p0 : w.cell? ⟨d, 0, none⟩ = some (.slice (some ⟨g1, 0, none⟩) cs.length c1) := by rw [hblk.cell]; rfl
  have q0 : w.cell? ⟨g1, i, none⟩ = some (.int .u32 x) := by
    rw [ho1.cellAt i (by omega), List.getElem?_map, prefix_get hS hx]; rfl
  clear hSL hcl hS hL hblk ho1 ho2 hx
  generalize S.length = k at *
  generalize cs.length = n at *
  have i0 : (0 : Int) ≤ (i : Int) := by omega
  have i1 : (i : Int) < (n : Int) := by omega
  go_enter Try.func28, Try.ntmps28
  go_wp2
  go_ret
  exact ⟨rfl, rfl⟩

theorem last_c (w : World) (B d : Nat) (S L : List Int) (i : Nat) (x : Int) (h : Store w B d S L) (hi : S.length = i + 1) (hx : S[i]? = some x) :
    Calls Try.prog 35 #[.pointer (some ⟨d, 0, none⟩)] w fun e w' => e = .returned (.int .u32 x) ∧ ∃ q, w' = w.drewN q := by
  obtain ⟨g1, c1, g2, c2, cs, ls, hB, hSL, hcl, hS, hL, hm, hblk, ho1, ho2⟩ := h
  have hle := hS.length_le
  have p0 : w.cell? ⟨d, 0, none⟩ = some (.slice (some ⟨g1, 0, none⟩) cs.length c1) := by rw [hblk.cell]; rfl
  have p2 : w.cell? ⟨d, 2, none⟩ = some (.int .i64 ((i : Int) + 1)) := by rw [hblk.cell, hi]; rfl
  have q0 : w.cell? ⟨g1, i, none⟩ = some (.int .u32 x) := by
    rw [ho1.cellAt i (by omega), List.getElem?_map, prefix_get hS hx]; rfl
  have hin : i < cs.length := by omega
  clear hSL hcl hS hL hblk ho1 ho2 hx hi hle
  generalize cs.length = n at *
  have i0 : (0 : Int) ≤ (i : Int) := by omega
  have i1 : (i : Int) < (n : Int) := by omega
  have i2 : ((i : Int) + 1 == 0) = false := by simp; omega
  have iw : IntKind.i64.wrap ((i : Int) + 1 - 1) = (i : Int) := by rw [IntWalk.i64_in _ (by omega)]; omega
  have iw' : ((i : Int) + 1 - 1) = (i : Int) := by omega
  go_enter Try.func35, Try.ntmps35
  go_wp2
  go_quiet (fail)
  go_wp2
  go_ret
  exact ⟨rfl, _, rfl⟩

theorem last_empty_c (w : World) (B d : Nat) (L : List Int) (h : Store w B d [] L) :
    Calls Try.prog 35 #[.pointer (some ⟨d, 0, none⟩)] w fun e w' => e = .returned (.int .u32 4294967295) ∧ ∃ q, w' = w.drewN q := by
  obtain ⟨g1, c1, g2, c2, cs, ls, hB, hSL, hcl, hS, hL, hm, hblk, ho1, ho2⟩ := h
  have p2 : w.cell? ⟨d, 2, none⟩ = some (.int .i64 0) := by rw [hblk.cell]; rfl
  clear hSL hcl hS hL hblk ho1 ho2
  go_enter Try.func35, Try.ntmps35
  go_wp2
  go_ret
  exact ⟨rfl, 0, rfl⟩
theorem posList_c (w : World) (B d : Nat) (S L : List Int) (h : Store w B d S L) : Calls Try.prog 25 #[.pointer (some ⟨d, 0, none⟩)] w (ListPost w .i64 L) := by
  obtain ⟨g1, c1, g2, c2, cs, ls, hB, hSL, hcl, hS, hL, hm, hblk, ho1, ho2⟩ := h
  have hle := hS.length_le
  have p1 : w.cell? ⟨d, 1, none⟩ = some (.slice (some ⟨g2, 0, none⟩) cs.length c2) := by rw [hblk.cell]; rfl
  have p2 : w.cell? ⟨d, 2, none⟩ = some (.int .i64 L.length) := by rw [hblk.cell, ← hSL]; rfl
  obtain ⟨k1, k2⟩ := cap_of_own ho2
  have HA := Lib.hid (arg_own (m := L.length) ho2 (ys := L.map (Value.int .i64)) (hL.map _) (by simp))
  have hle' : L.length ≤ cs.length := by omega
  clear hSL hcl hS hL hblk ho1 ho2 hle
  generalize hkk : L.length = k at *
  have HK := Lib.hid hkk
  clear hkk
  generalize cs.length = n at *
  have i0 : (0 : Int) ≤ (k : Int) := by omega
  have i1 : (k : Int) ≤ (c2 : Int) := by omega
  go_enter Try.func25, Try.ntmps25
  go_wp2
  go_quiet (fail)
  go_wp2
  go_ret
  obtain rfl := HK.out
  exact ⟨g2, c2, _, rfl, HA.out, rfl⟩

theorem eqU32_c (A A' : Option Addr) (n c c' : Nat) (zs : List Int) (w : World) (hm : n ≤ 1048576) (h1 : Arg w A n c (zs.map (Value.int .u32))) (h2 : Arg w A' n c' (zs.map (Value.int .u32))) :
    Calls Try.prog 20 #[.slice A n c, .slice A' n c'] w fun e w' => e = .returned (.bool true) ∧ ∃ q, w' = w.drewN q := by
  rcases Nat.eq_zero_or_pos n with h0 | hn
  · subst h0
    clear h1 h2
    go_enter Try.func20, Try.ntmps20
    go_wp2
    refine wp_loop_rounds 1 ?_
    rw [rounds_succ]
    go_wp2
    go_ret
    exact ⟨rfl, 0, rfl⟩
  have HL : Hid (zs.length = n) := by show zs.length = n; simpa using h1.1
  obtain ⟨b, o, rfl, hb, hc⟩ := h1.2.2.2.2 hn
  obtain ⟨b', o', rfl, hb', hc'⟩ := h2.2.2.2.2 hn
  have H1 := Lib.hid hc
  have H2 := Lib.hid hc'
  clear h1 h2 hc hc'
  go_enter Try.func20, Try.ntmps20
  go_wp2
  go_loopw [5] (fun i wr => ∃ k q : Nat, k ≤ n ∧ i = .int .i64 k ∧ wr = w.drewN q) (fun i _ => n - (intOf i).toNat)
  case atStart => exact ⟨0, 0, Nat.zero_le _, rfl, rfl⟩
  case round =>
    obtain ⟨k, q, hk, rfl, rfl⟩ := hrel
    by_cases hlt : k < n
    · obtain ⟨z, hz⟩ : ∃ z, zs[k]? = some z := ⟨zs[k]'(by rw [HL.out]; exact hlt), List.getElem?_eq_getElem _⟩
      have c1 := H1.out k _ (by rw [List.getElem?_map, hz]; rfl)
      have c2 := H2.out k _ (by rw [List.getElem?_map, hz]; rfl)
      have i0 : (0 : Int) ≤ (k : Int) := by omega
      have i1 : (k : Int) < (n : Int) := by omega
      clear hz
      go_wp2
      go_quiet (fail)
      go_wp2
      go_roundw
      case rel => exact ⟨k + 1, _, by omega, by go_num, rfl⟩
      case measure => simp [intOf]; omega
    · obtain rfl : k = n := by omega
      go_wp2
      go_ret
      exact ⟨rfl, _, rfl⟩

theorem eqInt_c (A A' : Option Addr) (n c c' : Nat) (zs : List Int) (w : World) (hm : n ≤ 1048576) (h1 : Arg w A n c (zs.map (Value.int .i64))) (h2 : Arg w A' n c' (zs.map (Value.int .i64))) :
    Calls Try.prog 24 #[.slice A n c, .slice A' n c'] w fun e w' => e = .returned (.bool true) ∧ ∃ q, w' = w.drewN q := by
  rcases Nat.eq_zero_or_pos n with h0 | hn
  · subst h0
    clear h1 h2
    go_enter Try.func24, Try.ntmps24
    go_wp2
    refine wp_loop_rounds 1 ?_
    rw [rounds_succ]
    go_wp2
    go_ret
    exact ⟨rfl, 0, rfl⟩
  have HL : Hid (zs.length = n) := by show zs.length = n; simpa using h1.1
  obtain ⟨b, o, rfl, hb, hc⟩ := h1.2.2.2.2 hn
  obtain ⟨b', o', rfl, hb', hc'⟩ := h2.2.2.2.2 hn
  have H1 := Lib.hid hc
  have H2 := Lib.hid hc'
  clear h1 h2 hc hc'
  go_enter Try.func24, Try.ntmps24
  go_wp2
  go_loopw [5] (fun i wr => ∃ k q : Nat, k ≤ n ∧ i = .int .i64 k ∧ wr = w.drewN q) (fun i _ => n - (intOf i).toNat)
  case atStart => exact ⟨0, 0, Nat.zero_le _, rfl, rfl⟩
  case round =>
    obtain ⟨k, q, hk, rfl, rfl⟩ := hrel
    by_cases hlt : k < n
    · obtain ⟨z, hz⟩ : ∃ z, zs[k]? = some z := ⟨zs[k]'(by rw [HL.out]; exact hlt), List.getElem?_eq_getElem _⟩
      have c1 := H1.out k _ (by rw [List.getElem?_map, hz]; rfl)
      have c2 := H2.out k _ (by rw [List.getElem?_map, hz]; rfl)
      have i0 : (0 : Int) ≤ (k : Int) := by omega
      have i1 : (k : Int) < (n : Int) := by omega
      clear hz
      go_wp2
      go_quiet (fail)
      go_wp2
      go_roundw
      case rel => exact ⟨k + 1, _, by omega, by go_num, rfl⟩
      case measure => simp [intOf]; omega
    · obtain rfl : k = n := by omega
      go_wp2
      go_ret
      exact ⟨rfl, _, rfl⟩
end Go.Proofs.Ytmcpjhkkdjhboaa
