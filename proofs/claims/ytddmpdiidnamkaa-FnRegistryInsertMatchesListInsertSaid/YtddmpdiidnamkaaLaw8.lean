/-
  The law: Insert answers as inserting into the list does.
-/
import Derived.Test.YtddmpdiidnamkaaBld
namespace Go.Proofs.Ytddmpdiidnamkaa
open Go.RowKit
set_option linter.unusedVariables false
attribute [local go_sem] run_store_float

theorem kI_upd (K : Nat → Option Int) (i : Nat) (z : Int) : upd (kI K) i (.int .i64 2) = kI (updO K i z) := by
  funext j
  unfold upd kI updO
  by_cases h : j = i <;> simp [h]
theorem vI_upd (K : Nat → Option Int) (i : Nat) (z : Int) : upd (vI K) i (.int .i32 z) = vI (updO K i z) := by
  funext j
  unfold upd vI updO
  by_cases h : j = i <;> simp [h]
theorem kI_none : kI (fun _ => none) = fun _ => .int .i64 0 := rfl
theorem vI_none : vI (fun _ => none) = fun _ => .int .i32 0 := rfl
/-- The two rows of the model. -/
def Two (w : World) (p q m : Nat) (K : Nat → Option Int) : Prop := Blk w p 3 (rowOf (kI K) m) ∧ Blk w q 21 (rowOf (vI K) m)
theorem Two.ne {w : World} {p q m : Nat} {K : Nat → Option Int} (h : Two w p q m K) : p ≠ q := Blk.ne_ h.1 h.2 (by decide)
theorem Two.put {w : World} {p q m : Nat} {K : Nat → Option Int} (h : Two w p q m K) (i : Nat) (z : Int) : Two ((w.setCell ⟨p, i, none⟩ (.int .i64 2)).setCell ⟨q, i, none⟩ (.int .i32 z)) p q m (updO K i z) := by
  refine ⟨?_, ?_⟩
  · have := Blk.far (h.1.set_ i (.int .i64 2)) (p := ⟨q, i, none⟩) h.ne (.int .i32 z)
    rwa [rowOf_set, kI_upd K i z] at this
  · have := (Blk.far h.2 (p := ⟨p, i, none⟩) (Ne.symm h.ne) (.int .i64 2)).set_ i (.int .i32 z)
    rwa [rowOf_set, vI_upd] at this
theorem Two.below {w w' : World} {p q m : Nat} {K : Nat → Option Int} (h : Two w p q m K) (hb : Below w.heap.size w w') : Two w' p q m K := ⟨h.1.below hb h.1.lt, h.2.below hb h.2.lt⟩
/-- The list with x put in at a, up to the old place i. -/
def KB (zs : List Int) (a : Nat) (x : Int) (i : Nat) : Nat → Option Int := fun j => if j < a then zs[j]? else if j = a then some x else if j ≤ i then zs[j - 1]? else none
theorem KB_start (zs : List Int) (a : Nat) (x : Int) : updO (KA zs a) a x = KB zs a x a := by
  funext j
  unfold updO KA KB
  by_cases e : j = a
  · rw [if_pos e, if_neg (by omega), if_pos e]
  · rw [if_neg e]
    by_cases e2 : j < a
    · rw [if_pos e2, if_pos e2]
    · rw [if_neg e2, if_neg e2, if_neg e, if_neg (by omega)]
theorem KB_step {zs : List Int} {a i : Nat} {x z : Int} (h : zs[i]? = some z) (hi : a ≤ i) : updO (KB zs a x i) (i + 1) z = KB zs a x (i + 1) := by
  funext j
  unfold updO KB
  by_cases e : j = i + 1
  · subst e
    rw [if_pos rfl, if_neg (by omega), if_neg (by omega), if_pos (by omega), show i + 1 - 1 = i by omega, h]
  · rw [if_neg e]
    by_cases e2 : j < a
    · rw [if_pos e2, if_pos e2]
    · rw [if_neg e2, if_neg e2]
      by_cases e3 : j = a
      · rw [if_pos e3, if_pos e3]
      · rw [if_neg e3, if_neg e3]
        by_cases e4 : j ≤ i
        · rw [if_pos e4, if_pos (by omega)]
        · rw [if_neg e4, if_neg (by omega)]
/-- The registry behind Insert is the model. -/
theorem ins_model (zs : List Int) (a n : Nat) (x : Int) (hn : zs.length = n) : insSl (slI (KA zs n)) a n (.iface 59 (.float .f64 (floatOfInt .f64 x))) = slI (if a < n then KB zs a x n else updO (KA zs n) a x) := by
  unfold insSl
  by_cases h : a < n
  · rw [if_pos h, if_pos h]
    funext j
    unfold upd shUp
    by_cases e : j = a
    · rw [if_pos e]
      unfold slI KB
      rw [if_neg (by omega), if_pos e]
    · rw [if_neg e]
      by_cases e2 : a < j ∧ j ≤ n
      · rw [if_pos e2]
        unfold slI KA KB
        rw [if_pos (by omega), if_neg (by omega), if_neg e, if_pos (by omega)]
      · rw [if_neg e2]
        unfold slI KA KB
        by_cases e3 : j < a
        · rw [if_pos (by omega), if_pos e3]
        · rw [if_neg (by omega), if_neg e3, if_neg e, if_neg (by omega)]
  · rw [if_neg h, if_neg h, slI_upd]

theorem info30 : (Try.prog.info? 3).map (fun i => (i.zero, i.size, i.bytes)) = some (some (.int .i64 0), 1, 8) := by kernel_rfl
theorem info21 : (Try.prog.info? 21).map (fun i => (i.zero, i.size, i.bytes)) = some (some (.int .i32 0), 1, 4) := by kernel_rfl

set_option maxHeartbeats 4000000 in
set_option maxRecDepth 100000 in
theorem ins_core (A : Option Addr) (n c cp a : Nat) (x : Int) (zs : List Int) (w : World) (h : Arg w A n c (zs.map (Value.int .i32))) (hn : n ≤ cp) (hc : cp ≤ 65536) (ha : a < cp) (hna : a < n → n < cp) (m : n ≤ 9223372036854775807) :
    Calls Try.prog 8 #[.slice A n c, .int .i64 (cp : Int), .int .i32 x, .int .i64 (a : Int)] w fun e w' => e = .returned (.bool true) ∧ Below w.heap.size w w' := by
  have H := Lib.hid h
  have HL : Hid (zs.length = n) := by show zs.length = n; simpa using h.1
  have hmk1 := fun W => run_make_row' (P := Try.prog) 30 3 (.int .i64 0) 8 Try.underlying30 info30 rfl .i64 .i64 cp (by omega) (by omega) W
  have hmk2 := fun W => run_make_row' (P := Try.prog) 45 21 (.int .i32 0) 4 Try.underlying45 info21 rfl .i64 .i64 cp (by omega) (by omega) W
  rw [rowOf_made, ← kI_none] at hmk1
  rw [rowOf_made, ← vI_none] at hmk2
  clear h
  by_cases han : a < n
  · have hncp := hna han
    have g1 : ¬ (cp : Int) < (n : Int) + 1 := by omega
    have HAN := Lib.hid han
    go_enter Try.func8, Try.ntmps8
    go_wp2_with fail
    refine (bytes35_c A n c _ _ _ w m).mono ?_; rintro e w' ⟨b, rfl, rfl⟩
    cases b
    · go_wp2_with fail
      go_ret
      exact ⟨rfl, Below.refl _ _⟩
    go_wp2_with fail
    refine (copy_i32 A n c zs w H.out (by omega)).mono ?_; rintro e w1 ⟨A3, c3, rfl, a3, b1⟩
    have A3' := Lib.hid a3
    have B1 := Lib.hid b1
    clear a3 b1
    go_wp2_with fail
    have TW : Hid (Two ((w1.alloc (.cells (rowOf (kI fun _ => none) cp) 3)).alloc (.cells (rowOf (vI fun _ => none) cp) 21)) w1.heap.size (w1.heap.size + 1) cp (fun _ => none)) := Lib.hid ⟨(Blk.new _ _ _).alloc _, Blk.new_at _ _ _ (by simp)⟩
    have BW : Hid (Below w1.heap.size w1 ((w1.alloc (.cells (rowOf (kI fun _ => none) cp) 3)).alloc (.cells (rowOf (vI fun _ => none) cp) 21))) := Lib.hid (((Below.refl _ _).alloc (Nat.le_refl _) _).alloc (by simp) _)
    clear hmk1 hmk2
    generalize (w1.alloc (.cells (rowOf (kI fun _ => none) cp) 3)).alloc (.cells (rowOf (vI fun _ => none) cp) 21) = w0 at *
    go_loopw [14] (fun i wr => ∃ k : Nat, k ≤ a ∧ i = .int .i64 k ∧ Hid (Two wr w1.heap.size (w1.heap.size + 1) cp (KA zs k)) ∧ Hid (Below w1.heap.size w1 wr)) (fun i _ => a - (intOf i).toNat)
    case atStart => exact ⟨0, Nat.zero_le _, rfl, Lib.hid (by rw [KA_zero]; exact TW.out), BW.out⟩
    case round =>
      obtain ⟨k, hk, rfl, hT, hB⟩ := hrel
      by_cases hlt : k < a
      · obtain ⟨z, hz⟩ : ∃ z, zs[k]? = some z := ⟨zs[k]'(by rw [HL.out]; omega), List.getElem?_eq_getElem _⟩
        obtain ⟨b, off, rfl, hb, hcc⟩ := A3'.out.2.2.2.2 (by omega)
        have ck : wr.cell? ⟨b, off + k, none⟩ = some (.int .i32 z) := (hB.out.cell (by exact hb)).trans (hcc k _ (by rw [List.getElem?_map, hz]; rfl))
        have hb1 : ¬ b = w1.heap.size := by omega
        have hb2 : ¬ b = w1.heap.size + 1 := by omega
        have hb3 : ¬ w1.heap.size = b := by omega
        have hb4 : ¬ w1.heap.size + 1 = b := by omega
        have pc := (hT.out.1.cell (k)).trans (rowOf_at (by omega))
        have pf := hT.out.1.frozen (k)
        have qc := (hT.out.2.cell (k)).trans (rowOf_at (by omega))
        have qf := hT.out.2.frozen (k)
        have HZ := Lib.hid hz
        have NX := hT.out.put (k) z
        rw [KA_step HZ.out] at NX
        have T' := Lib.hid NX
        have B' : Hid (Below w1.heap.size w1 ((wr.setCell ⟨w1.heap.size, k, none⟩ (.int .i64 2)).setCell ⟨w1.heap.size + 1, k, none⟩ (.int .i32 z))) := Lib.hid ((hB.out.setCell (Nat.le_refl _) _).setCell (Nat.le_succ _) _)
        have i0 : (0 : Int) ≤ (k : Int) := by omega
        have i1 : (k : Int) < (n : Int) := by omega
        have i2 : (k : Int) < (cp : Int) := by omega
        have i3 : (k : Int) < (a : Int) := by omega
        clear hz hcc NX
        go_wp2_with fail
        go_roundw
        case rel => exact ⟨k + 1, by omega, by go_num, T'.out, B'.out⟩
        case measure => simp [intOf]; omega
      · obtain rfl : k = a := by omega
        have pc := (hT.out.1.cell (k)).trans (rowOf_at (by omega))
        have pf := hT.out.1.frozen (k)
        have qc := (hT.out.2.cell (k)).trans (rowOf_at (by omega))
        have qf := hT.out.2.frozen (k)
        have NX := hT.out.put (k) x
        rw [KB_start] at NX
        have T' := Lib.hid NX
        have B' : Hid (Below w1.heap.size w1 ((wr.setCell ⟨w1.heap.size, k, none⟩ (.int .i64 2)).setCell ⟨w1.heap.size + 1, k, none⟩ (.int .i32 x))) := Lib.hid ((hB.out.setCell (Nat.le_refl _) _).setCell (Nat.le_succ _) _)
        have i0 : (0 : Int) ≤ (k : Int) := by omega
        have i2 : (k : Int) < (cp : Int) := by omega
        clear NX
        go_wp2_with fail
        generalize (wr.setCell ⟨w1.heap.size, k, none⟩ (.int .i64 2)).setCell ⟨w1.heap.size + 1, k, none⟩ (.int .i32 x) = w2 at *
        clear pc pf qc qf hT hB
        go_loopw [15] (fun i wr => ∃ j : Nat, k ≤ j ∧ j ≤ n ∧ i = .int .i64 j ∧ Hid (Two wr w1.heap.size (w1.heap.size + 1) cp (KB zs k x j)) ∧ Hid (Below w1.heap.size w1 wr)) (fun i _ => n - (intOf i).toNat)
        case atStart => exact ⟨k, Nat.le_refl _, by omega, rfl, T'.out, B'.out⟩
        case round =>
          obtain ⟨j, hkj, hjn, rfl, hT, hB⟩ := hrel
          by_cases hlt2 : j < n
          · obtain ⟨z, hz⟩ : ∃ z, zs[j]? = some z := ⟨zs[j]'(by rw [HL.out]; omega), List.getElem?_eq_getElem _⟩
            obtain ⟨b, off, rfl, hb, hcc⟩ := A3'.out.2.2.2.2 (by omega)
            have ck : wr.cell? ⟨b, off + j, none⟩ = some (.int .i32 z) := (hB.out.cell (by exact hb)).trans (hcc j _ (by rw [List.getElem?_map, hz]; rfl))
            have hb1 : ¬ b = w1.heap.size := by omega
            have hb2 : ¬ b = w1.heap.size + 1 := by omega
            have hb3 : ¬ w1.heap.size = b := by omega
            have hb4 : ¬ w1.heap.size + 1 = b := by omega
            have pc := (hT.out.1.cell (j + 1)).trans (rowOf_at (by omega))
            have pf := hT.out.1.frozen (j + 1)
            have qc := (hT.out.2.cell (j + 1)).trans (rowOf_at (by omega))
            have qf := hT.out.2.frozen (j + 1)
            have i4 : (j : Int) + 1 < (cp : Int) := by omega
            have HZ := Lib.hid hz
            have NX := hT.out.put (j + 1) z
            rw [KB_step HZ.out hkj] at NX
            have T' := Lib.hid NX
            have B' : Hid (Below w1.heap.size w1 ((wr.setCell ⟨w1.heap.size, j + 1, none⟩ (.int .i64 2)).setCell ⟨w1.heap.size + 1, j + 1, none⟩ (.int .i32 z))) := Lib.hid ((hB.out.setCell (Nat.le_refl _) _).setCell (Nat.le_succ _) _)
            have i0 : (0 : Int) ≤ (j : Int) := by omega
            have i1 : (j : Int) < (n : Int) := by omega
            have i2 : (j : Int) < (cp : Int) := by omega
            have i3 : (j : Int) < (n : Int) := by omega
            clear hz hcc NX
            go_wp2_with fail
            go_roundw
            case rel => exact ⟨j + 1, by omega, by omega, by go_num, T'.out, B'.out⟩
            case measure => simp [intOf]; omega
          · obtain rfl : j = n := by omega
            have i1 : ¬ (j : Int) < (j : Int) := by omega
            go_wp2_with fail
            refine (build37_c A3 j c3 cp zs wr (A3'.out.below hB.out) hn hc).mono ?_; rintro e w5 ⟨f, g, rfl, hr, b5, hf, hg⟩
            have T5 := Lib.hid (hT.out.below b5)
            have B5 := Lib.hid (hB.out.trans (b5.mono hB.out.size))
            have B5' := Lib.hid b5
            have R5 := Lib.hid hr
            have h5 := T5.out.1.lt
            clear hr b5
            go_wp2_with fail
            refine (zins38_c w5 wr.heap.size f g cp j 0 cp _ _ k x R5.out ha hna (slI_num _) ⟨hf, hg⟩).mono ?_; rintro e w6 ⟨rfl, hr6, b6⟩
            rw [ins_model zs k j x HL.out] at hr6
            simp only [if_pos HAN.out] at hr6
            have R6 := Lib.hid hr6
            have BB := Lib.hid (B5'.out.trans b6)
            have T6 := Lib.hid (hT.out.below BB.out)
            have BT := Lib.hid (B1.out.trans ((hB.out.trans (BB.out.mono hB.out.size)).mono B1.out.size))
            clear hr6 b6
            go_wp2_with fail
            have hmt := match39_c w6 f g cp _ 0 cp _ _ _ _ cp R6.out T6.out.1 T6.out.2 (Nat.le_refl _) hc
            rw [Int.natCast_add] at hmt
            refine hmt.mono ?_; rintro e w' ⟨rfl, rfl⟩
            go_wp2_with fail
            go_ret
            exact ⟨rfl, BT.out⟩
  · have g1 : ¬ (cp : Int) < (a : Int) + 1 := by omega
    have HAN := Lib.hid han
    go_enter Try.func8, Try.ntmps8
    go_wp2_with fail
    refine (bytes35_c A n c _ _ _ w m).mono ?_; rintro e w' ⟨b, rfl, rfl⟩
    cases b
    · go_wp2_with fail
      go_ret
      exact ⟨rfl, Below.refl _ _⟩
    go_wp2_with fail
    refine (copy_i32 A n c zs w H.out (by omega)).mono ?_; rintro e w1 ⟨A3, c3, rfl, a3, b1⟩
    have A3' := Lib.hid a3
    have B1 := Lib.hid b1
    clear a3 b1
    go_wp2_with fail
    have TW : Hid (Two ((w1.alloc (.cells (rowOf (kI fun _ => none) cp) 3)).alloc (.cells (rowOf (vI fun _ => none) cp) 21)) w1.heap.size (w1.heap.size + 1) cp (fun _ => none)) := Lib.hid ⟨(Blk.new _ _ _).alloc _, Blk.new_at _ _ _ (by simp)⟩
    have BW : Hid (Below w1.heap.size w1 ((w1.alloc (.cells (rowOf (kI fun _ => none) cp) 3)).alloc (.cells (rowOf (vI fun _ => none) cp) 21))) := Lib.hid (((Below.refl _ _).alloc (Nat.le_refl _) _).alloc (by simp) _)
    clear hmk1 hmk2
    generalize (w1.alloc (.cells (rowOf (kI fun _ => none) cp) 3)).alloc (.cells (rowOf (vI fun _ => none) cp) 21) = w0 at *
    go_loopw [16] (fun i wr => ∃ k : Nat, k ≤ n ∧ i = .int .i64 k ∧ Hid (Two wr w1.heap.size (w1.heap.size + 1) cp (KA zs k)) ∧ Hid (Below w1.heap.size w1 wr)) (fun i _ => n - (intOf i).toNat)
    case atStart => exact ⟨0, Nat.zero_le _, rfl, Lib.hid (by rw [KA_zero]; exact TW.out), BW.out⟩
    case round =>
      obtain ⟨k, hk, rfl, hT, hB⟩ := hrel
      by_cases hlt : k < n
      · obtain ⟨z, hz⟩ : ∃ z, zs[k]? = some z := ⟨zs[k]'(by rw [HL.out]; omega), List.getElem?_eq_getElem _⟩
        obtain ⟨b, off, rfl, hb, hcc⟩ := A3'.out.2.2.2.2 (by omega)
        have ck : wr.cell? ⟨b, off + k, none⟩ = some (.int .i32 z) := (hB.out.cell (by exact hb)).trans (hcc k _ (by rw [List.getElem?_map, hz]; rfl))
        have hb1 : ¬ b = w1.heap.size := by omega
        have hb2 : ¬ b = w1.heap.size + 1 := by omega
        have hb3 : ¬ w1.heap.size = b := by omega
        have hb4 : ¬ w1.heap.size + 1 = b := by omega
        have pc := (hT.out.1.cell (k)).trans (rowOf_at (by omega))
        have pf := hT.out.1.frozen (k)
        have qc := (hT.out.2.cell (k)).trans (rowOf_at (by omega))
        have qf := hT.out.2.frozen (k)
        have HZ := Lib.hid hz
        have NX := hT.out.put (k) z
        rw [KA_step HZ.out] at NX
        have T' := Lib.hid NX
        have B' : Hid (Below w1.heap.size w1 ((wr.setCell ⟨w1.heap.size, k, none⟩ (.int .i64 2)).setCell ⟨w1.heap.size + 1, k, none⟩ (.int .i32 z))) := Lib.hid ((hB.out.setCell (Nat.le_refl _) _).setCell (Nat.le_succ _) _)
        have i0 : (0 : Int) ≤ (k : Int) := by omega
        have i1 : (k : Int) < (n : Int) := by omega
        have i2 : (k : Int) < (cp : Int) := by omega
        have i3 : (k : Int) < (n : Int) := by omega
        clear hz hcc NX
        go_wp2_with fail
        go_roundw
        case rel => exact ⟨k + 1, by omega, by go_num, T'.out, B'.out⟩
        case measure => simp [intOf]; omega
      · obtain rfl : k = n := by omega
        have pc := (hT.out.1.cell (a)).trans (rowOf_at (by omega))
        have pf := hT.out.1.frozen (a)
        have qc := (hT.out.2.cell (a)).trans (rowOf_at (by omega))
        have qf := hT.out.2.frozen (a)
        have NX := hT.out.put (a) x
        have T' := Lib.hid NX
        have B' : Hid (Below w1.heap.size w1 ((wr.setCell ⟨w1.heap.size, a, none⟩ (.int .i64 2)).setCell ⟨w1.heap.size + 1, a, none⟩ (.int .i32 x))) := Lib.hid ((hB.out.setCell (Nat.le_refl _) _).setCell (Nat.le_succ _) _)
        have i0 : (0 : Int) ≤ (a : Int) := by omega
        have i2 : (a : Int) < (cp : Int) := by omega
        clear NX
        go_wp2_with fail
        generalize (wr.setCell ⟨w1.heap.size, a, none⟩ (.int .i64 2)).setCell ⟨w1.heap.size + 1, a, none⟩ (.int .i32 x) = w2 at *
        refine (build37_c A3 k c3 cp zs w2 (A3'.out.below B'.out) hn hc).mono ?_; rintro e w5 ⟨f, g, rfl, hr, b5, hf, hg⟩
        have T5 := Lib.hid (T'.out.below b5)
        have B5 := Lib.hid (B'.out.trans (b5.mono B'.out.size))
        have B5' := Lib.hid b5
        have R5 := Lib.hid hr
        have h5 := T5.out.1.lt
        clear hr b5
        go_wp2_with fail
        refine (zins38_c w5 w2.heap.size f g cp k 0 cp _ _ a x R5.out ha hna (slI_num _) ⟨hf, hg⟩).mono ?_; rintro e w6 ⟨rfl, hr6, b6⟩
        rw [ins_model zs a k x HL.out] at hr6
        simp only [if_neg HAN.out] at hr6
        have R6 := Lib.hid hr6
        have BB := Lib.hid (B5'.out.trans b6)
        have T6 := Lib.hid (T'.out.below BB.out)
        have BT := Lib.hid (B1.out.trans ((B'.out.trans (BB.out.mono B'.out.size)).mono B1.out.size))
        clear hr6 b6
        go_wp2_with fail
        have hmt := match39_c w6 f g cp _ 0 cp _ _ _ _ cp R6.out T6.out.1 T6.out.2 (Nat.le_refl _) hc
        rw [Int.natCast_add] at hmt
        refine hmt.mono ?_; rintro e w' ⟨rfl, rfl⟩
        go_wp2_with fail
        go_ret
        exact ⟨rfl, BT.out⟩
end Go.Proofs.Ytddmpdiidnamkaa
