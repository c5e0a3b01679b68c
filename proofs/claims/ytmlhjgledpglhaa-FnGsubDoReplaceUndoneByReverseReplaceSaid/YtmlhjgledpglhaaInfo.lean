/-
  The walk through the helper that lays the spans out as a slice of structs.
-/
import Derived.Test.YtmlhjgledpglhaaHelp
namespace Go.Proofs.Ytmlhjgledpglhaa
open Go.RowKit
set_option linter.unusedVariables false

def zero64 : Value := .agg #[.slice none 0 0, .string ByteArray.empty]
theorem infoz64 : (Try.prog.info? 64).map (fun i => (i.zero, i.size, i.bytes)) = some (some zero64, 2, 40) := by kernel_rfl
theorem make_infos (n : Nat) (hn : n ≤ 4096) (w : World) : (Instr.makeSlice 48 (.int .i64 (n : Int)) (.int .i64 (n : Int))).run Try.prog w = .ok (.slice (some ⟨w.heap.size, 0, none⟩) n n) (w.alloc (.cells (madeCells zero64.cells (n * 2)) 64)) := by
  obtain ⟨i, hi, hzz⟩ := Option.map_eq_some_iff.1 infoz64
  simp only [Prod.mk.injEq] at hzz
  obtain ⟨hz, hs, hb⟩ := hzz
  have hr := run_make (P := Try.prog) w 48 64 i zero64 Try.underlying48 hi hz .i64 .i64 n n (by omega) (by omega) (by rw [hb]; omega) (by omega)
  simp only [Int.toNat_natCast, hs] at hr
  exact hr
theorem make_two (w : World) : (Instr.makeSlice 44 (.int .i64 2) (.int .i64 2)).run Try.prog w = .ok (.slice (some ⟨w.heap.size, 0, none⟩) 2 2) (w.alloc (.cells #[.int .i64 0, .int .i64 0] 3)) := by kernel_rfl

/-- Entry i of the row C is the span x. -/
def EntryI (wr : World) (p : Nat) (C : Array Value) (i : Nat) (x : Span) : Prop := ∃ q z, q < wr.heap.size ∧ q ≠ p ∧ bs z = x.2.2 ∧ C[i * 2]? = some (.slice (some ⟨q, 0, none⟩) 2 2) ∧ C[i * 2 + 1]? = some (.string z) ∧ Blk wr q 3 #[.int .i64 x.1, .int .i64 x.2.1]

set_option maxHeartbeats 1000000 in
set_option maxRecDepth 100000 in
theorem info_c (A1 A2 A3 : Option Addr) (n c1 c2 c3 : Nat) (ss es : List Int) (rs : List ByteArray) (w : World) (h1 : Arg w A1 n c1 (ss.map (Value.int .i64))) (h2 : Arg w A2 n c2 (es.map (Value.int .i64))) (h3 : Arg w A3 n c3 (rs.map Value.string)) (hn : n ≤ 4096)
    (L : List Span) (hL : L.length = n) (hLi : ∀ (i : Nat) (x : Span), L[i]? = some x → ss[i]? = some (x.1 : Int) ∧ es[i]? = some (x.2.1 : Int) ∧ ∃ z, rs[i]? = some z ∧ bs z = x.2.2) :
    Calls Try.prog 31 #[.slice A1 n c1, .slice A2 n c2, .slice A3 n c3] w fun e w' => ∃ p, e = .returned (.slice (some ⟨p, 0, none⟩) n n) ∧ Infos w' p n L ∧ Below w.heap.size w w' := by
  have H1 := Lib.hid h1
  have H2 := Lib.hid h2
  have H3 := Lib.hid h3
  have HL := Lib.hid hL
  have HI := Lib.hid hLi
  clear h1 h2 h3 hL hLi
  have hmk := fun W => make_infos n hn W
  have hmk2 := fun W => make_two W
  have hS : Hid ((madeCells zero64.cells (n * 2)).size = n * 2) := size_madeCells _ _
  generalize madeCells zero64.cells (n * 2) = C0 at *
  go_enter Try.func31, Try.ntmps31
  go_wp2
  have K0 : Hid (Blk (w.alloc (.cells C0 64)) w.heap.size 64 C0) := Blk.new _ _ _
  have B0 : Hid (Below w.heap.size w (w.alloc (.cells C0 64))) := (Below.refl _ _).alloc (Nat.le_refl _) _
  generalize hp : w.heap.size = p at *
  generalize w.alloc (.cells C0 64) = w1 at *
  clear hmk
  go_loopw [8] (fun i wr => ∃ (k : Nat) (C : Array Value), k ≤ n ∧ i = .int .i64 k ∧ Hid (Blk wr p 64 C) ∧ Hid (C.size = n * 2) ∧ Hid (∀ (i : Nat) (x : Span), i < k → L[i]? = some x → EntryI wr p C i x) ∧ Hid (Below p w wr)) (fun i _ => n - (intOf i).toNat)
  case atStart => exact ⟨0, C0, Nat.zero_le _, rfl, K0.out, hS.out, Lib.hid (fun i x h _ => absurd h (by omega)), B0.out⟩
  case round =>
    obtain ⟨k, C, hk, rfl, hB, hC, hE, hBel⟩ := hrel
    by_cases hlt : k < n
    · obtain ⟨x, hx⟩ : ∃ x, L[k]? = some x := ⟨L[k]'(by rw [HL.out]; exact hlt), List.getElem?_eq_getElem _⟩
      obtain ⟨ha, hb, z, hz, hzx⟩ := HI.out k x hx
      have hbel' : Below w.heap.size w wr := by rw [hp]; exact hBel.out
      obtain ⟨b1, o1, rfl, _, hc1⟩ := (H1.out.below hbel').2.2.2.2 (by omega)
      obtain ⟨b2, o2, rfl, _, hc2⟩ := (H2.out.below hbel').2.2.2.2 (by omega)
      obtain ⟨b3, o3, rfl, hb3, hc3⟩ := H3.out.2.2.2.2 (by omega)
      have ne3 : ¬ b3 = p := by omega
      have ne4 : ¬ p = b3 := by omega
      have ck1 : wr.cell? ⟨b1, o1 + k, none⟩ = some (.int .i64 (x.1 : Int)) := hc1 k _ (by rw [List.getElem?_map, ha]; rfl)
      have ck2 : wr.cell? ⟨b2, o2 + k, none⟩ = some (.int .i64 (x.2.1 : Int)) := hc2 k _ (by rw [List.getElem?_map, hb]; rfl)
      have ck3 : wr.cell? ⟨b3, o3 + k, none⟩ = some (.string z) := (hbel'.cell (p := ⟨b3, o3 + k, none⟩) (by exact hb3)).trans (hc3 k _ (by rw [List.getElem?_map, hz]; rfl))
      have pl := hB.out.lt
      have l1 := World.block_lt_of_cell? wr _ ck1
      have l2 := World.block_lt_of_cell? wr _ ck2
      have l3 := World.block_lt_of_cell? wr _ ck3
      simp only at l1 l2 l3
      have pc0 : wr.cell? ⟨p, k * 2, none⟩ = some (C[k * 2]'(by rw [hC.out]; omega)) := (hB.out.cell _).trans (Array.getElem?_eq_getElem _)
      have pc1 : wr.cell? ⟨p, k * 2 + 1, none⟩ = some (C[k * 2 + 1]'(by rw [hC.out]; omega)) := (hB.out.cell _).trans (Array.getElem?_eq_getElem _)
      have pf0 := hB.out.frozen (k * 2)
      have pf1 := hB.out.frozen (k * 2 + 1)
      generalize C[k * 2]'(by rw [hC.out]; omega) = u0 at pc0
      generalize C[k * 2 + 1]'(by rw [hC.out]; omega) = u1 at pc1
      have HX := Lib.hid hx
      have HZX := Lib.hid hzx
      have i0 : (0 : Int) ≤ (k : Int) := by omega
      have i1 : (k : Int) < (n : Int) := by omega
      clear hx ha hb hz hzx hc1 hc2 hc3 hbel' hp
      go_wp2_with fail
      go_roundw
      case rel => exact ⟨k + 1, (C.setIfInBounds (k * 2) (.slice (some ⟨wr.heap.size, 0, none⟩) 2 2)).setIfInBounds (k * 2 + 1) (.string z), by omega, by go_num, ((hB.out.set_ (k * 2) _).set_ (k * 2 + 1) _).alloc _, Lib.hid (by rw [Array.size_setIfInBounds, Array.size_setIfInBounds, hC.out]),
        Lib.hid (fun i y hi hy => by
          by_cases e : i = k
          · subst e
            rw [HX.out] at hy
            obtain rfl := Option.some.inj hy
            refine ⟨wr.heap.size, z, by simp [World.setCell], by omega, HZX.out, ?_, ?_, Blk.new_at _ _ _ (by simp [World.setCell])⟩
            · rw [Array.getElem?_setIfInBounds_ne (by omega), Array.getElem?_setIfInBounds_self_of_lt (by rw [hC.out]; omega)]
            · rw [Array.getElem?_setIfInBounds_self_of_lt (by rw [Array.size_setIfInBounds, hC.out]; omega)]
          · obtain ⟨q, z', q1, q2, q3, q4, q5, q6⟩ := hE.out i y (by omega) hy
            refine ⟨q, z', by simp [World.setCell]; omega, q2, q3, ?_, ?_, ((Blk.far (Blk.far q6 (p := ⟨p, k * 2, none⟩) q2 _) (p := ⟨p, k * 2 + 1, none⟩) q2 _)).alloc _⟩
            · rw [Array.getElem?_setIfInBounds_ne (by omega), Array.getElem?_setIfInBounds_ne (by omega), q4]
            · rw [Array.getElem?_setIfInBounds_ne (by omega), Array.getElem?_setIfInBounds_ne (by omega), q5]),
        Lib.hid (((hBel.out.setCell (Nat.le_refl _) _).setCell (Nat.le_refl _) _).alloc (by simp [World.setCell]; omega) _)⟩
      case measure => simp [intOf]; omega
    · obtain rfl : k = n := by omega
      clear hmk2
      go_wp2_with fail
      go_ret
      refine ⟨p, rfl, ⟨HL.out, hB.out.lt, fun i x hx => ?_⟩, by rw [hp]; exact hBel.out⟩
      obtain ⟨q, z, q1, q2, q3, q4, q5, q6⟩ := hE.out i x (by rw [← HL.out]; exact (List.getElem?_eq_some_iff.1 hx).1) hx
      refine ⟨q, z, q1, q3, ?_, (q6.cell 0).trans rfl, (q6.cell 1).trans rfl⟩
      intro j v hv
      match j, hv with
      | 0, hv => rw [hB.out.cell]; exact q4.trans hv
      | 1, hv => rw [hB.out.cell]; exact q5.trans hv
      | j + 2, hv => simp at hv

theorem gsub30_c (s : ByteArray) (p n : Nat) (L : List Span) (w : World) (hI : Infos w p n L) (hw : gwf (bs s) L) (hs : s.size ≤ 1114112) (hn : n ≤ 4096) (hb : ∀ k, k ≤ n → (gacc (bs s) (L.take k)).1.length ≤ 1114112) :
    Calls Try.prog 30 #[.string s, .slice (some ⟨p, 0, none⟩) n n] w fun e w' => ∃ t : ByteArray, e = .returned (.string t) ∧ bs t = gs (bs s) L ∧ Below w.heap.size w w' := by
  have H := Lib.hid (gsub_c s p n L w hI hw hs hn hb)
  clear hI hw hb
  go_enter Try.func30, Try.ntmps30
  go_wp2_with fail
  refine H.out.mono ?_; rintro e w' ⟨t, rfl, h1, h2⟩
  have H1 := Lib.hid h1
  have H2 := Lib.hid h2
  clear h1 h2
  go_wp2_with fail
  go_ret
  exact ⟨t, rfl, H1.out, H2.out⟩
end Go.Proofs.Ytmlhjgledpglhaa
