/-
  The walks through the laws' own helpers over bytes: equality of two slices, the maker of a scanner, its buffer.
-/
import Derived.Test.YtmlhjgledpglhaaUne
namespace Go.Proofs.Ytmlhjgledpglhaa
open Go.RowKit
set_option linter.unusedVariables false

theorem eqBytes_c (A A' : Option Addr) (n c c' : Nat) (zs : List Int) (w : World) (hm : n ≤ 1048576) (h1 : Arg w A n c (zs.map (Value.int .u8))) (h2 : Arg w A' n c' (zs.map (Value.int .u8))) :
    Calls Try.prog 37 #[.slice A n c, .slice A' n c'] w fun e w' => e = .returned (.bool true) ∧ ∃ q, w' = w.drewN q := by
  rcases Nat.eq_zero_or_pos n with h0 | hn
  · subst h0
    clear h1 h2
    go_enter Try.func37, Try.ntmps37
    go_wp2
    refine wp_loop_rounds 1 ?_
    rw [rounds_succ]
    go_wp2
    go_ret
    exact ⟨rfl, 0, rfl⟩
  have HL : Hid (zs.length = n) := by show zs.length = n; simpa using h1.1
  obtain ⟨b, o, rfl, hb, hc⟩ := h1.2.2.2.2 hn
  obtain ⟨b', o', rfl, hb', hc'⟩ := h2.2.2.2.2 hn
  have H1 := Lib.hid hc
  have H2 := Lib.hid hc'
  clear h1 h2 hc hc'
  go_enter Try.func37, Try.ntmps37
  go_wp2
  go_loopw [5] (fun i wr => ∃ k q : Nat, k ≤ n ∧ i = .int .i64 k ∧ wr = w.drewN q) (fun i _ => n - (intOf i).toNat)
  case atStart => exact ⟨0, 0, Nat.zero_le _, rfl, rfl⟩
  case round =>
    obtain ⟨k, q, hk, rfl, rfl⟩ := hrel
    by_cases hlt : k < n
    · obtain ⟨z, hz⟩ : ∃ z, zs[k]? = some z := ⟨zs[k]'(by rw [HL.out]; exact hlt), List.getElem?_eq_getElem _⟩
      have c1 := H1.out k _ (by rw [List.getElem?_map, hz]; rfl)
      have c2 := H2.out k _ (by rw [List.getElem?_map, hz]; rfl)
      have i0 : (0 : Int) ≤ (k : Int) := by omega
      have i1 : (k : Int) < (n : Int) := by omega
      clear hz
      go_wp2
      go_quiet (fail)
      go_wp2
      go_roundw
      case rel => exact ⟨k + 1, _, by omega, by go_num, rfl⟩
      case measure => simp [intOf]; omega
    · obtain rfl : k = n := by omega
      go_wp2
      go_ret
      exact ⟨rfl, _, rfl⟩

/-- make with a length of 0 and a capacity, elements of one cell. -/
theorem run_make_cap (t e : TypeId) (z : Value) (bytes : Nat) (ht : Try.prog.underlying t = some (.slice e)) (hinfo : (Try.prog.info? e).map (fun i => (i.zero, i.size, i.bytes)) = some (some z, 1, bytes)) (hz1 : z.cells = #[z])
    (c : Nat) (hbytes : bytes * c ≤ 281474976710656) (h63 : c ≤ 9223372036854775807) (w : World) :
    (Instr.makeSlice t (.int .i64 0) (.int .i64 (c : Int))).run Try.prog w = .ok (.slice (some ⟨w.heap.size, 0, none⟩) 0 c) (w.alloc (.cells (madeCells #[z] c) e)) := by
  obtain ⟨i, hi, hzz⟩ := Option.map_eq_some_iff.1 hinfo
  simp only [Prod.mk.injEq] at hzz
  obtain ⟨hz, hs, hb⟩ := hzz
  have hb' : (i.bytes : Int) * (c : Int) ≤ 281474976710656 := by
    have h : ((i.bytes * c : Nat) : Int) ≤ 281474976710656 := by rw [hb]; omega
    rwa [Int.natCast_mul] at h
  have hr := run_make (P := Try.prog) w t e i z ht hi hz .i64 .i64 0 c (by omega) (by omega) hb' (by omega)
  simp only [Int.toNat_natCast, hs, Nat.mul_one, hz1] at hr
  exact hr

theorem own_arg {w : World} {B g n cap : Nat} {e : TypeId} {xs : List Value} (h : w.ownsRow B e 1 (.slice (some ⟨g, 0, none⟩) n cap) n xs) : Arg w (some ⟨g, 0, none⟩) n cap xs := by
  rcases h.2 with ⟨h', _⟩ | ⟨g', cap', cur, h', hb, hg, hnc, hcm, hcs, htake⟩
  · simp at h'
  · simp only [Value.slice.injEq, Option.some.injEq, Addr.mk.injEq, and_true, true_and] at h'
    obtain ⟨rfl, rfl⟩ := h'
    refine ⟨by simpa using h.1, hnc, hcm, fun h => by simp at h, fun _ => ⟨g, 0, rfl, (h.lt g rfl).2, fun i u hu => ?_⟩⟩
    have := h.cells (g := g) rfl i u hu
    simpa [Addr.add_lit] using this

/-- The bytes of a list of numbers, as cells. -/
def u8s (zs : List Nat) : List Value := zs.map fun (z : Nat) => Value.int .u8 (z : Int)

set_option maxHeartbeats 1000000 in
theorem unescape_c (fl : Nat) (s : ByteArray) (w : World) (hs : s.size ≤ 65536) (hfl : fl < 256) : Calls Try.prog 36 #[.int .u8 (fl : Int), .string s] w fun e w' =>
    ∃ g cap, e = .returned (.tuple #[.slice (some ⟨g, 0, none⟩) (une fl (bs s)).1.length cap, .int .i64 ((une fl (bs s)).2 : Int)]) ∧ Arg w' (some ⟨g, 0, none⟩) (une fl (bs s)).1.length cap (u8s (une fl (bs s)).1) ∧ Below w.heap.size w w' := by
  have hmk : ∀ W : World, (Instr.makeSlice 27 (.int .i64 0) (.int .i64 (s.size : Int))).run Try.prog W = .ok (.slice (some ⟨W.heap.size, 0, none⟩) 0 s.size) (W.alloc (.cells (madeCells #[.int .u8 0] s.size) 5)) :=
    fun W => run_make_cap 27 5 (.int .u8 0) 1 Try.underlying27 info5 rfl s.size (by omega) (by omega) W
  obtain ⟨i1', hi1, hz1, hs1, hb1⟩ := info_parts info5
  have HL := Lib.hid (bs_length s)
  go_enter Try.func36, Try.ntmps36
  go_wp2_with fail
  clear hmk
  have R5 := Lib.hid (own_made (base := w.heap.size) w 5 (.int .u8 0) s.size rfl (Nat.le_refl _) (by unfold maxLen; omega))
  have L5 : Hid (Below w.heap.size w (w.alloc (.cells (madeCells #[.int .u8 0] s.size) 5))) := (Below.refl _ _).alloc (Nat.le_refl _) _
  generalize hg0 : w.heap.size = g0 at *
  go_loopw [6, 7, 8] (fun o p i wr => ∃ (k q g cap : Nat) (out : List Nat), k ≤ s.size ∧ i = .int .i64 k ∧ p = .int .i64 q ∧ o = .slice (some ⟨g, 0, none⟩) out.length cap ∧ Hid (out ++ (une fl ((bs s).drop k)).1 = (une fl (bs s)).1) ∧ Hid (q + (une fl ((bs s).drop k)).2 = (une fl (bs s)).2) ∧
    out.length ≤ k ∧ q ≤ k ∧ Hid (wr.ownsRow g0 5 1 (.slice (some ⟨g, 0, none⟩) out.length cap) out.length (u8s out)) ∧ Hid (Below g0 w wr)) (fun _ _ i _ => s.size - (intOf i).toNat)
  case atStart => exact ⟨0, 0, g0, s.size, [], Nat.zero_le _, rfl, rfl, rfl, Lib.hid rfl, Lib.hid (by simp), Nat.le_refl _, Nat.le_refl _, R5.out, L5.out⟩
  case round =>
    obtain ⟨k, q, g, cap, out, hk, rfl, rfl, rfl, hO, hQ, hol, hqk, hRow, hBel⟩ := hrel
    have hrl := hRow.out.lt g rfl
    have hws : g0 ≤ wr.heap.size := by omega
    have i0 : (0 : Int) ≤ (k : Int) := by omega
    by_cases hlt : k < s.size
    · obtain ⟨c, hc, hc2⟩ := bs_some (s := s) (k := k) hlt
      have X1 := run_at hc
      have HC := Lib.hid hc
      have j1 : (k : Int) < (s.size : Int) := by omega
      clear hc
      by_cases hcf : c = fl
      · subst hcf
        by_cases hl : k + 1 < s.size
        · obtain ⟨d, hd, hd2⟩ := bs_some (s := s) (k := k + 1) hl
          have X2 := run_at hd
          simp only [Int.natCast_add, Int.cast_ofNat_Int] at X2
          have HD := Lib.hid hd
          have j2 : (k : Int) + 1 < (s.size : Int) := by omega
          clear hd
          by_cases hdf : d = c
          · subst hdf
            have hU := Lib.hid (une_pair HC.out HD.out)
            go_wp2_with fail
            go_roundw
            case rel => exact ⟨k + 2, q + 1, g, cap, out, by omega, by go_num, by go_num, rfl, Lib.hid (by have := hO.out; rw [hU.out] at this; exact this), Lib.hid (by have := hQ.out; rw [hU.out] at this; simp at this; omega), by omega, by omega, hRow.out, hBel.out⟩
            case measure => simp [intOf]; omega
          · have e5 : ((d : Int) == (c : Int)) = false := by simp <;> omega
            have hU := Lib.hid (une_one (fl := c) (c := c) HC.out (fun h => hdf (by have h2 := h.2; rw [HD.out] at h2; exact Option.some.inj h2)))
            have hsz : out.length + 1 ≤ 65537 := by omega
            go_wp2_with (at_builtin; go_must (refine wpList_append_lies _ rfl (.tmp 40) (.tmp 44) _ rfl g0 5 i1' _ 1 1 Try.underlying27 hi1 hz1 hs1 hb1 rfl (by omega) (.slice (some ⟨g, 0, none⟩) out.length cap) out.length (u8s out) rfl (hRow.out.alloc _) ⟨wr.heap.size, 0, none⟩ 1 1 [.int .u8 (c : Int)] rfl rfl (World.news_of_block (cs := #[.int .u8 (c : Int)]) (t := 5) (fr := (0, 0)) (heap_alloc_new wr _)) (by simp [Value.oneCell']) (by omega) (by unfold maxLen; omega) (by omega) (by simp; omega) (wr.heap.size + 1) (by simp) ?_))
            intro gg cap' w1 hown1 hgrow1 hat1 hlt1
            have HO1 := Lib.hid hown1
            have HG1 := Lib.hid hgrow1
            clear hown1 hgrow1 hat1
            go_wp2_with fail
            go_roundw
            case rel => exact ⟨k + 1, q, gg, cap', out ++ [c], by omega, by go_num, rfl, by rw [List.length_append]; rfl, Lib.hid (by have := hO.out; rw [hU.out] at this; simpa using this), Lib.hid (by have := hQ.out; rw [hU.out] at this; simpa using this), by rw [List.length_append]; simp; omega, by omega,
              Lib.hid (by rw [List.length_append]; unfold u8s; rw [List.map_append]; exact HO1.out), Lib.hid ((hBel.out.alloc hws _).grown HG1.out (by simp; omega) (fun j hj => by simp [Value.ownBlock] at hj; have := hrl.1; omega))⟩
            case measure => simp [intOf]; omega
        · have j2 : ¬ (k : Int) + 1 < (s.size : Int) := by omega
          have hU := Lib.hid (une_one (fl := c) (c := c) HC.out (fun h => by have := (List.getElem?_eq_some_iff.1 h.2).1; rw [HL.out] at this; omega))
          have hsz : out.length + 1 ≤ 65537 := by omega
          go_wp2_with (at_builtin; go_must (refine wpList_append_lies _ rfl (.tmp 40) (.tmp 44) _ rfl g0 5 i1' _ 1 1 Try.underlying27 hi1 hz1 hs1 hb1 rfl (by omega) (.slice (some ⟨g, 0, none⟩) out.length cap) out.length (u8s out) rfl (hRow.out.alloc _) ⟨wr.heap.size, 0, none⟩ 1 1 [.int .u8 (c : Int)] rfl rfl (World.news_of_block (cs := #[.int .u8 (c : Int)]) (t := 5) (fr := (0, 0)) (heap_alloc_new wr _)) (by simp [Value.oneCell']) (by omega) (by unfold maxLen; omega) (by omega) (by simp; omega) (wr.heap.size + 1) (by simp) ?_))
          intro gg cap' w1 hown1 hgrow1 hat1 hlt1
          have HO1 := Lib.hid hown1
          have HG1 := Lib.hid hgrow1
          clear hown1 hgrow1 hat1
          go_wp2_with fail
          go_roundw
          case rel => exact ⟨k + 1, q, gg, cap', out ++ [c], by omega, by go_num, rfl, by rw [List.length_append]; rfl, Lib.hid (by have := hO.out; rw [hU.out] at this; simpa using this), Lib.hid (by have := hQ.out; rw [hU.out] at this; simpa using this), by rw [List.length_append]; simp; omega, by omega,
            Lib.hid (by rw [List.length_append]; unfold u8s; rw [List.map_append]; exact HO1.out), Lib.hid ((hBel.out.alloc hws _).grown HG1.out (by simp; omega) (fun j hj => by simp [Value.ownBlock] at hj; have := hrl.1; omega))⟩
          case measure => simp [intOf]; omega
      · have e2 : ((c : Int) == (fl : Int)) = false := by simp <;> omega
        have hU := Lib.hid (une_one (fl := fl) (c := c) HC.out (fun h => hcf h.1))
        have hsz : out.length + 1 ≤ 65537 := by omega
        go_wp2_with (at_builtin; go_must (refine wpList_append_lies _ rfl (.tmp 40) (.tmp 44) _ rfl g0 5 i1' _ 1 1 Try.underlying27 hi1 hz1 hs1 hb1 rfl (by omega) (.slice (some ⟨g, 0, none⟩) out.length cap) out.length (u8s out) rfl (hRow.out.alloc _) ⟨wr.heap.size, 0, none⟩ 1 1 [.int .u8 (c : Int)] rfl rfl (World.news_of_block (cs := #[.int .u8 (c : Int)]) (t := 5) (fr := (0, 0)) (heap_alloc_new wr _)) (by simp [Value.oneCell']) (by omega) (by unfold maxLen; omega) (by omega) (by simp; omega) (wr.heap.size + 1) (by simp) ?_))
        intro gg cap' w1 hown1 hgrow1 hat1 hlt1
        have HO1 := Lib.hid hown1
        have HG1 := Lib.hid hgrow1
        clear hown1 hgrow1 hat1
        go_wp2_with fail
        go_roundw
        case rel => exact ⟨k + 1, q, gg, cap', out ++ [c], by omega, by go_num, rfl, by rw [List.length_append]; rfl, Lib.hid (by have := hO.out; rw [hU.out] at this; simpa using this), Lib.hid (by have := hQ.out; rw [hU.out] at this; simpa using this), by rw [List.length_append]; simp; omega, by omega,
          Lib.hid (by rw [List.length_append]; unfold u8s; rw [List.map_append]; exact HO1.out), Lib.hid ((hBel.out.alloc hws _).grown HG1.out (by simp; omega) (fun j hj => by simp [Value.ownBlock] at hj; have := hrl.1; omega))⟩
        case measure => simp [intOf]; omega
    · obtain rfl : k = s.size := by omega
      have hE := Lib.hid (une_end (fl := fl) (S := bs s) (pos := s.size) (by rw [HL.out]; exact Nat.le_refl _))
      have hOut : Hid (out = (une fl (bs s)).1) := Lib.hid (by have := hO.out; rw [hE.out] at this; simpa using this)
      have hQq : Hid (q = (une fl (bs s)).2) := Lib.hid (by have := hQ.out; rw [hE.out] at this; simpa using this)
      go_wp2_with fail
      go_ret2
      refine ⟨g, cap, ?_, ?_, by rw [hg0]; exact hBel.out⟩
      · rw [← hOut.out, ← hQq.out]; rfl
      · rw [← hOut.out]; exact own_arg hRow.out
end Go.Proofs.Ytmlhjgledpglhaa
