/-
  The walks through the plain models of the script (zzModelInsts, zzModelLines), zzN and the size guards.
-/
import Derived.Test.YtmcpjhkkdjhboaaRun
import Derived.WalkSmall
namespace Go.Proofs.Ytmcpjhkkdjhboaa
open Go.RowKit
set_option linter.unusedVariables false

theorem own_dropLast {w : World} {B g n cap : Nat} {e : TypeId} {k : IntKind} {xs : List Int} (h : w.ownsRow B e 1 (.slice (some ⟨g, 0, none⟩) n cap) n (xs.map (Value.int k))) (hn : 0 < n) :
    w.ownsRow B e 1 (.slice (some ⟨g, 0, none⟩) (n - 1) cap) (n - 1) (xs.dropLast.map (Value.int k)) := by
  have hl : xs.length = n := by simpa using h.1
  obtain ⟨m, rfl⟩ : ∃ m, n = m + 1 := ⟨n - 1, by omega⟩
  have hne : xs ≠ [] := fun h => by rw [h] at hl; simp at hl
  have hx : xs.map (Value.int k) = xs.dropLast.map (Value.int k) ++ [Value.int k (xs.getLast hne)] := by
    conv => lhs; rw [← List.dropLast_concat_getLast hne]
    simp
  rw [hx] at h
  exact ownsRow_pop (by simp; omega) h

theorem Arg.drewN {w : World} {A : Option Addr} {n c q : Nat} {xs : List Value} (h : Arg w A n c xs) : Arg (w.drewN q) A n c xs := h

theorem modelI (w0 w : World) (A1 A3 : Option Addr) (n1 c1 n3 c3 n : Nat) (is : List Int) (ps : List Bool) (h1 : Arg w0 A1 n1 c1 (is.map (Value.int .u32))) (h3 : Arg w0 A3 n3 c3 (ps.map Value.bool)) (l1 : n ≤ n1) (l3 : n ≤ n3) (hm : n ≤ 65536)
    (hb : Below w0.heap.size w0 w) :
    Calls Try.prog 22 #[.slice A1 n1 c1, .slice A3 n3 c3, .int .i64 n] w (fun e w' => ∃ g c, e = .returned (.slice (some ⟨g, 0, none⟩) (stk is ps n).length c) ∧ Arg w' (some ⟨g, 0, none⟩) (stk is ps n).length c ((stk is ps n).map (Value.int .u32)) ∧ Below w.heap.size w w') := by
  have HA1 := Lib.hid h1
  have HA3 := Lib.hid h3
  have HB := Lib.hid hb
  obtain ⟨i1, hi1, hz1, hs1, hb1⟩ := info_parts info41
  have hmk := fun W => run_make_cap 22 41 (.int .u32 0) 4 Try.underlying22 info41 rfl n (by omega) (by omega) W
  clear h1 h3 hb
  go_enter Try.func22, Try.ntmps22
  go_wp2
  clear hmk
  go_loopw [7, 8] (fun v i wr => ∃ k g c : Nat, k ≤ n ∧ i = .int .i64 k ∧ v = .slice (some ⟨g, 0, none⟩) (stk is ps k).length c ∧ Hid (wr.ownsRow w.heap.size 41 1 (.slice (some ⟨g, 0, none⟩) (stk is ps k).length c) (stk is ps k).length ((stk is ps k).map (Value.int .u32))) ∧ Below w.heap.size w wr) (fun _ i _ => n - (intOf i).toNat)
  case atStart => exact ⟨0, w.heap.size, n, Nat.zero_le _, rfl, rfl, own_made w _ _ _ rfl (Nat.le_refl _) (by unfold maxLen; omega), (Below.refl _ _).alloc (Nat.le_refl _) _⟩
  case round =>
    obtain ⟨k, g, c, hk, rfl, rfl, hown, hbel⟩ := hrel
    have HBEL := Lib.hid hbel
    have hws := hbel.size
    clear hbel
    by_cases hlt : k < n
    · have hbb := Lib.hid (HB.out.trans (HBEL.out.mono HB.out.size))
      obtain ⟨b1, o1, u1, e1, x1, cell1, lt1⟩ := HA1.out.at_ hbb.out (k := k) (by omega)
      obtain ⟨b3, o3, u3, e3, x3, cell3, lt3⟩ := HA3.out.at_ hbb.out (k := k) (by omega)
      subst e1 e3
      obtain ⟨x, X1, rfl⟩ := map_get x1
      obtain ⟨q, X3, rfl⟩ := map_get x3
      have i0 : (0 : Int) ≤ (k : Int) := by omega
      have j1 : (k : Int) < (n1 : Int) := by omega
      have j3 : (k : Int) < (n3 : Int) := by omega
      have hsl := stk_le is ps k
      have Y1 := Lib.hid X1
      have Y3 := Lib.hid X3
      obtain ⟨k1, k2⟩ := cap_of_own hown.out
      clear x1 x3 X1 X3
      by_cases hpop : q = true ∧ 0 < (stk is ps k).length
      · obtain ⟨rfl, hpos⟩ := hpop
        have T : Hid (stk is ps (k + 1) = (stk is ps k).dropLast) := stk_pop Y3.out hpos
        have HP := Lib.hid (own_dropLast hown.out hpos)
        have TL : Hid ((stk is ps (k + 1)).length = (stk is ps k).length - 1) := by show _ = _; rw [T.out, List.length_dropLast]
        generalize (stk is ps k).length = m at *
        go_wp2
        go_roundw
        case rel => exact ⟨k + 1, g, c, by omega, by go_num, by rw [TL.out], by rw [TL.out, T.out]; exact HP.out, HBEL.out⟩
        case measure => simp [intOf]; omega
      · have T : Hid (stk is ps (k + 1) = stk is ps k ++ [x]) := stk_push Y3.out Y1.out hpop
        have TL : Hid ((stk is ps (k + 1)).length = (stk is ps k).length + 1) := by show _ = _; rw [T.out, List.length_append]; rfl
        generalize (stk is ps k).length = m at *
        have hq : q = false ∨ (q = true ∧ m = 0) := by
          cases q
          · exact .inl rfl
          · exact .inr ⟨rfl, by have h' : ¬ 0 < m := fun h => hpop ⟨rfl, h⟩; omega⟩
        clear hpop
        rcases hq with rfl | ⟨rfl, rfl⟩
        all_goals
          go_wp2_with (at_builtin; go_must (refine wpList_append_lies _ rfl (.tmp 30) (.tmp 35) _ rfl w.heap.size 41 i1 _ 1 4 Try.underlying22 hi1 hz1 hs1 hb1 rfl (by omega) (.slice (some ⟨g, 0, none⟩) _ c) _ ((stk is ps k).map (Value.int .u32)) rfl (hown.out.alloc _) ⟨wr.heap.size, 0, none⟩ 1 1 [.int .u32 x] rfl rfl (World.news_of_block (cs := #[.int .u32 x]) (t := 41) (fr := (0, 0)) (heap_alloc_new wr _)) (by simp [Value.oneCell']) (by omega) (by unfold maxLen; omega) (by omega) (by simp; omega) (wr.heap.size + 1) (by simp) ?_))
          intro gg cap w1 hown1 hgrow1 hat1 hlt1
          have HO1 := Lib.hid hown1
          have HG1 := Lib.hid hgrow1
          clear hown1 hgrow1 hat1
          go_wp2
          go_roundw
          case rel => exact ⟨k + 1, gg, cap, by omega, by go_num, by rw [TL.out], by rw [TL.out, T.out, List.map_append]; exact HO1.out, (HBEL.out.alloc hws _).grown HG1.out (by simp; omega) (fun j hj => by simp [Value.ownBlock] at hj; have := (hown.out.lt g rfl).1; omega)⟩
          case measure => simp [intOf]; omega
    · obtain rfl : k = n := by omega
      go_wp2
      go_ret
      exact ⟨g, c, rfl, arg_own hown.out List.prefix_rfl (by simp), HBEL.out⟩

theorem modelL (w0 w : World) (A1 A3 : Option Addr) (n1 c1 n3 c3 n : Nat) (is : List Int) (ps : List Bool) (h1 : Arg w0 A1 n1 c1 (is.map (Value.int .i64))) (h3 : Arg w0 A3 n3 c3 (ps.map Value.bool)) (l1 : n ≤ n1) (l3 : n ≤ n3) (hm : n ≤ 65536)
    (hb : Below w0.heap.size w0 w) :
    Calls Try.prog 26 #[.slice A1 n1 c1, .slice A3 n3 c3, .int .i64 n] w (fun e w' => ∃ g c, e = .returned (.slice (some ⟨g, 0, none⟩) (stk is ps n).length c) ∧ Arg w' (some ⟨g, 0, none⟩) (stk is ps n).length c ((stk is ps n).map (Value.int .i64)) ∧ Below w.heap.size w w') := by
  have HA1 := Lib.hid h1
  have HA3 := Lib.hid h3
  have HB := Lib.hid hb
  obtain ⟨i1, hi1, hz1, hs1, hb1⟩ := info_parts info3
  have hmk := fun W => run_make_cap 23 3 (.int .i64 0) 8 Try.underlying23 info3 rfl n (by omega) (by omega) W
  clear h1 h3 hb
  go_enter Try.func26, Try.ntmps26
  go_wp2
  clear hmk
  go_loopw [7, 8] (fun v i wr => ∃ k g c : Nat, k ≤ n ∧ i = .int .i64 k ∧ v = .slice (some ⟨g, 0, none⟩) (stk is ps k).length c ∧ Hid (wr.ownsRow w.heap.size 3 1 (.slice (some ⟨g, 0, none⟩) (stk is ps k).length c) (stk is ps k).length ((stk is ps k).map (Value.int .i64))) ∧ Below w.heap.size w wr) (fun _ i _ => n - (intOf i).toNat)
  case atStart => exact ⟨0, w.heap.size, n, Nat.zero_le _, rfl, rfl, own_made w _ _ _ rfl (Nat.le_refl _) (by unfold maxLen; omega), (Below.refl _ _).alloc (Nat.le_refl _) _⟩
  case round =>
    obtain ⟨k, g, c, hk, rfl, rfl, hown, hbel⟩ := hrel
    have HBEL := Lib.hid hbel
    have hws := hbel.size
    clear hbel
    by_cases hlt : k < n
    · have hbb := Lib.hid (HB.out.trans (HBEL.out.mono HB.out.size))
      obtain ⟨b1, o1, u1, e1, x1, cell1, lt1⟩ := HA1.out.at_ hbb.out (k := k) (by omega)
      obtain ⟨b3, o3, u3, e3, x3, cell3, lt3⟩ := HA3.out.at_ hbb.out (k := k) (by omega)
      subst e1 e3
      obtain ⟨x, X1, rfl⟩ := map_get x1
      obtain ⟨q, X3, rfl⟩ := map_get x3
      have i0 : (0 : Int) ≤ (k : Int) := by omega
      have j1 : (k : Int) < (n1 : Int) := by omega
      have j3 : (k : Int) < (n3 : Int) := by omega
      have hsl := stk_le is ps k
      have Y1 := Lib.hid X1
      have Y3 := Lib.hid X3
      obtain ⟨k1, k2⟩ := cap_of_own hown.out
      clear x1 x3 X1 X3
      by_cases hpop : q = true ∧ 0 < (stk is ps k).length
      · obtain ⟨rfl, hpos⟩ := hpop
        have T : Hid (stk is ps (k + 1) = (stk is ps k).dropLast) := stk_pop Y3.out hpos
        have HP := Lib.hid (own_dropLast hown.out hpos)
        have TL : Hid ((stk is ps (k + 1)).length = (stk is ps k).length - 1) := by show _ = _; rw [T.out, List.length_dropLast]
        generalize (stk is ps k).length = m at *
        go_wp2
        go_roundw
        case rel => exact ⟨k + 1, g, c, by omega, by go_num, by rw [TL.out], by rw [TL.out, T.out]; exact HP.out, HBEL.out⟩
        case measure => simp [intOf]; omega
      · have T : Hid (stk is ps (k + 1) = stk is ps k ++ [x]) := stk_push Y3.out Y1.out hpop
        have TL : Hid ((stk is ps (k + 1)).length = (stk is ps k).length + 1) := by show _ = _; rw [T.out, List.length_append]; rfl
        generalize (stk is ps k).length = m at *
        have hq : q = false ∨ (q = true ∧ m = 0) := by
          cases q
          · exact .inl rfl
          · exact .inr ⟨rfl, by have h' : ¬ 0 < m := fun h => hpop ⟨rfl, h⟩; omega⟩
        clear hpop
        rcases hq with rfl | ⟨rfl, rfl⟩
        all_goals
          go_wp2_with (at_builtin; go_must (refine wpList_append_lies _ rfl (.tmp 30) (.tmp 35) _ rfl w.heap.size 3 i1 _ 1 8 Try.underlying23 hi1 hz1 hs1 hb1 rfl (by omega) (.slice (some ⟨g, 0, none⟩) _ c) _ ((stk is ps k).map (Value.int .i64)) rfl (hown.out.alloc _) ⟨wr.heap.size, 0, none⟩ 1 1 [.int .i64 x] rfl rfl (World.news_of_block (cs := #[.int .i64 x]) (t := 3) (fr := (0, 0)) (heap_alloc_new wr _)) (by simp [Value.oneCell']) (by omega) (by unfold maxLen; omega) (by omega) (by simp; omega) (wr.heap.size + 1) (by simp) ?_))
          intro gg cap w1 hown1 hgrow1 hat1 hlt1
          have HO1 := Lib.hid hown1
          have HG1 := Lib.hid hgrow1
          clear hown1 hgrow1 hat1
          go_wp2
          go_roundw
          case rel => exact ⟨k + 1, gg, cap, by omega, by go_num, by rw [TL.out], by rw [TL.out, T.out, List.map_append]; exact HO1.out, (HBEL.out.alloc hws _).grown HG1.out (by simp; omega) (fun j hj => by simp [Value.ownBlock] at hj; have := (hown.out.lt g rfl).1; omega)⟩
          case measure => simp [intOf]; omega
    · obtain rfl : k = n := by omega
      go_wp2
      go_ret
      exact ⟨g, c, rfl, arg_own hown.out List.prefix_rfl (by simp), HBEL.out⟩

theorem zzN_c (A1 A2 A3 : Option Addr) (n1 c1 n2 c2 n3 c3 : Nat) (h1 : n1 ≤ 65536) (h2 : n2 ≤ 65536) (h3 : n3 ≤ 65536) (w : World) :
    Calls Try.prog 15 #[.slice A1 n1 c1, .slice A2 n2 c2, .slice A3 n3 c3] w fun e w' => ∃ n : Nat, e = .returned (.int .i64 n) ∧ (n ≤ n1 ∧ n ≤ n2 ∧ n ≤ n3) ∧ w = w' := by
  rcases (show (n2 < n1 ∨ n1 ≤ n2) by omega) with h12 | h12
  · rcases (show (n3 < n2 ∨ n2 ≤ n3) by omega) with h23 | h23
    · go_enter Try.func15, Try.ntmps15
      go_wp2
      go_ret
      exact ⟨n3, rfl, ⟨by omega, by omega, Nat.le_refl _⟩, rfl⟩
    · go_enter Try.func15, Try.ntmps15
      go_wp2
      go_ret
      exact ⟨n2, rfl, ⟨by omega, Nat.le_refl _, h23⟩, rfl⟩
  · rcases (show (n3 < n1 ∨ n1 ≤ n3) by omega) with h23 | h23
    · go_enter Try.func15, Try.ntmps15
      go_wp2
      go_ret
      exact ⟨n3, rfl, ⟨by omega, by omega, Nat.le_refl _⟩, rfl⟩
    · go_enter Try.func15, Try.ntmps15
      go_wp2
      go_ret
      exact ⟨n1, rfl, ⟨Nat.le_refl _, h12, h23⟩, rfl⟩

end Go.Proofs.Ytmcpjhkkdjhboaa
