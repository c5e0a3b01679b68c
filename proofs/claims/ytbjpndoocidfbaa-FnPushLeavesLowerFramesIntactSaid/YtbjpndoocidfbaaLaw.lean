/-
  The law: frames pushed later leave the lower frames as they were, and unwinding finds each frame and each pointer again.
-/
import Derived.Test.YtbjpndoocidfbaaStack
import Derived.Test.YtbjpndoocidfbaaCopy
import Derived.Lib.Builder
import Derived.Laws.StructEq
namespace Go.Proofs.Ytbjpndoocidfbaa
open Go.RowKit
set_option linter.unusedVariables false

/-- A frame's cells. -/
def fr (i pc base nargs nret : Int) : List Value := [.int .i64 i, .pointer none, .pointer none, .int .i64 pc, .int .i64 base, .int .i64 0, .int .i64 0, .int .i64 nargs, .int .i64 nret, .int .i64 0]
theorem fr_len (i pc base nargs nret : Int) : (fr i pc base nargs nret).length = 10 := rfl
theorem fr_one (i pc base nargs nret : Int) : ∀ v ∈ fr i pc base nargs nret, v.oneCell' = true := by
  intro v hv
  simp only [fr, List.mem_cons, List.not_mem_nil, or_false] at hv
  rcases hv with rfl | rfl | rfl | rfl | rfl | rfl | rfl | rfl | rfl | rfl <;> rfl
theorem fr_set (i pc base nargs nret j : Int) : (fr i pc base nargs nret).set 0 (.int .i64 j) = fr j pc base nargs nret := rfl

theorem eq_nil_ptr (d : Nat) (t e : TypeId) (ht : Try.prog.underlying t = some (.pointer e)) (w : World) : (Op.equalIn (d + 1) t (.pointer none) (.pointer none)).run Try.prog w = .ok true w := by
  simp [Op.equalIn, run_underlying ht]
theorem stood32 : Try.prog.stoodInHeld 32 = false := by kernel_rfl
theorem fields32 : Try.prog.underlying 32 = some (.struct (Try.prog.fieldsOf 32)) := by kernel_rfl
theorem guard32 : Try.prog.eqGuardType Try.prog.depth 32 = false := by kernel_rfl
theorem eq_fr (a b c d e : Int) (w : World) : (Op.equalIn 10000 32 (.agg (fr a b c d e).toArray) (.agg (fr a b c d e).toArray)).run Try.prog w = .ok true w := by
  rw [show (10000 : Nat) = 9998 + 1 + 1 from rfl, run_equalIn_agg w (9998 + 1) 32 _ _ fields32 stood32]
  have u3 := Try.underlying3
  have a3 := Try.isAgg3
  have z3 := Try.sizeOf3
  have a29 := Try.isAgg29
  have z29 := Try.sizeOf29
  have a30 := Try.isAgg30
  have z30 := Try.sizeOf30
  have p29 := fun d w => eq_nil_ptr d 29 _ Try.underlying29 w
  have p30 := fun d w => eq_nil_ptr d 30 _ Try.underlying30 w
  simp only [Program.fieldsOf, Try.underlying32, fr]
  go_simp
/-- A frame is equal to one that is built of the same numbers. -/
theorem neq_fr (a b c d e : Int) (w : World) : (binOp .neq 32 (.agg (fr a b c d e).toArray) (.agg #[.int .i64 a, .pointer none, .pointer none, .int .i64 b, .int .i64 c, .int .i64 0, .int .i64 0, .int .i64 d, .int .i64 e, .int .i64 0])).run Try.prog w = .ok (.bool false) w := by
  have h := run_neq_struct (P := Try.prog) w 32 (fr a b c d e).toArray (fr a b c d e).toArray
  rw [eq_fr] at h
  exact h
theorem guard_fr (a b c d e : Int) (xs : Array Value) (x y : Operand) (w : World) : (eqGuard .neq 32 x y (.agg (fr a b c d e).toArray) (.agg xs)).run Try.prog w = .ok () w := run_eqGuard_agg w .neq 32 x y _ _ guard32

/-- What the law keeps: k frames of the first kind and j of the second, all as pushed, and the first frames' pointers. -/
structure Kept (w0 wr : World) (B f g p N n sp k j : Nat) (vs es : List Int) (P : Array Value) : Prop where
  stk : Stk wr f g N sp
  r1 : ∀ i z, i < k → vs[i]? = some z → wr.rangeAt g (i * 10) (fr i z i 0 2)
  r2 : ∀ i z, i < j → es[i]? = some z → wr.rangeAt g ((n + i) * 10) (fr ((n : Int) + i) z (-1 - i) 5 0)
  ptr : Blk wr p 30 P
  bel : Below B w0 wr
  lo : B ≤ f ∧ B ≤ g ∧ B ≤ p
  ne : p ≠ f ∧ p ≠ g

theorem Kept.drewN {w0 wr : World} {B f g p N n sp k j : Nat} {vs es : List Int} {P : Array Value} (h : Kept w0 wr B f g p N n sp k j vs es P) (q : Nat) : Kept w0 (wr.drewN q) B f g p N n sp k j vs es P :=
  ⟨h.stk.drewN q, h.r1, h.r2, h.ptr, below_drewN h.bel q, h.lo, h.ne⟩
theorem Kept.setSp {w0 wr : World} {B f g p N n sp k j : Nat} {vs es : List Int} {P : Array Value} (h : Kept w0 wr B f g p N n sp k j vs es P) (s : Nat) : Kept w0 (wr.setCell ⟨f, 1, none⟩ (.int .i64 s)) B f g p N n s k j vs es P :=
  ⟨h.stk.setSp s, fun i z hi hz => range_far _ (h.r1 i z hi hz) (.inl h.stk.ne), fun i z hi hz => range_far _ (h.r2 i z hi hz) (.inl h.stk.ne), Blk.far h.ptr h.ne.1 _, h.bel.setCell h.lo.1 _, h.lo, h.ne⟩
theorem Kept.setPtr {w0 wr : World} {B f g p N n sp k j : Nat} {vs es : List Int} {P : Array Value} (h : Kept w0 wr B f g p N n sp k j vs es P) (i : Nat) (v : Value) : Kept w0 (wr.setCell ⟨p, i, none⟩ v) B f g p N n sp k j vs es (P.setIfInBounds i v) :=
  ⟨⟨Blk.far h.stk.head (Ne.symm h.ne.1) _, h.stk.big, h.stk.ne, there_set h.stk.row _ _⟩, fun i z hi hz => range_far _ (h.r1 i z hi hz) (.inl h.ne.2), fun i z hi hz => range_far _ (h.r2 i z hi hz) (.inl h.ne.2), h.ptr.set_ i v, h.bel.setCell h.lo.2.2 _, h.lo, h.ne⟩

theorem infoP : (Try.prog.info? 30).map (fun i => (i.zero, i.size, i.bytes)) = some (some (.pointer none), 1, 8) := by kernel_rfl

/-- A frame pushed onto the stack. -/
theorem Kept.push1 {w0 wr w' : World} {B f g p N n k : Nat} {vs es : List Int} {P : Array Value} (h : Kept w0 wr B f g p N n k k 0 vs es P) {z : Int} (hz : vs[k]? = some z) (hk : k < n) (hs : Stk w' f g N (k + 1)) (hr : w'.rangeAt g (k * 10) (fr k z k 0 2)) (ht : Tur wr w' f g (k * 10)) (hb : Below B wr w') :
    Kept w0 w' B f g p N n (k + 1) (k + 1) 0 vs es P :=
  ⟨hs, fun i y hi hy => by
    by_cases e : i = k
    · subst e
      rw [hz] at hy
      obtain rfl := Option.some.inj hy
      exact hr
    · exact ht.lo _ _ (by rw [fr_len]; omega) (h.r1 i y (by omega) hy), fun i y hi _ => absurd hi (by omega), (ht.far p h.ptr.lt h.ne.1 h.ne.2).trans h.ptr, h.bel.trans hb, h.lo, h.ne⟩
theorem Kept.push2 {w0 wr w' : World} {B f g p N n j : Nat} {vs es : List Int} {P : Array Value} (h : Kept w0 wr B f g p N n (n + j) n j vs es P) {z : Int} (hz : es[j]? = some z) (hs : Stk w' f g N (n + j + 1)) (hr : w'.rangeAt g ((n + j) * 10) (fr ((n : Int) + j) z (-1 - j) 5 0)) (ht : Tur wr w' f g ((n + j) * 10)) (hb : Below B wr w') :
    Kept w0 w' B f g p N n (n + (j + 1)) n (j + 1) vs es P :=
  ⟨hs, fun i y hi hy => ht.lo _ _ (by rw [fr_len]; omega) (h.r1 i y hi hy), fun i y hi hy => by
    by_cases e : i = j
    · subst e
      rw [hz] at hy
      obtain rfl := Option.some.inj hy
      exact hr
    · exact ht.lo _ _ (by rw [fr_len]; omega) (h.r2 i y (by omega) hy), (ht.far p h.ptr.lt h.ne.1 h.ne.2).trans h.ptr, h.bel.trans hb, h.lo, h.ne⟩

/-- The pointers that Last handed out. -/
def ptrs (g k : Nat) : List Value := (List.range k).map fun i => .pointer (some ⟨g, i * 10, none⟩)
theorem ptrs_len (g k : Nat) : (ptrs g k).length = k := by simp [ptrs]
theorem ptrs_snoc (g k : Nat) : ptrs g (k + 1) = ptrs g k ++ [.pointer (some ⟨g, k * 10, none⟩)] := by simp [ptrs, List.range_succ]

set_option maxHeartbeats 1000000 in
set_option maxRecDepth 100000 in
theorem main_c (A E : Option Addr) (n m c d : Nat) (vs es : List Int) (w : World) (ha : Arg w A n c (vs.map (Value.int .i64))) (he : Arg w E m d (es.map (Value.int .i64))) (hn : n ≤ 4096) (hm : m ≤ 4096) :
    Calls Try.prog 3 #[.slice A n c, .slice E m d] w fun e w' => e = .returned (.bool true) ∧ Below w.heap.size w w' := by
  have hmk := fun W => run_make_row' (P := Try.prog) 27 30 (.pointer none) 8 Try.underlying27 infoP rfl .i64 .i64 n (by omega) (by omega) W
  have HA := Lib.hid ha
  have HE := Lib.hid he
  clear ha he
  go_enter Try.func3, Try.ntmps3
  go_wp2_with (go_at_call 4; go_in)
  refine (copy_i64 A n c vs w HA.out (by omega)).mono ?_; rintro e w1 ⟨A1, c1, rfl, ha1, b1⟩
  have HA1 := Lib.hid ha1
  have B1 := Lib.hid b1
  have HE1 := Lib.hid (HE.out.below b1)
  clear ha1 b1
  go_wp2_with fail
  refine (copy_i64 E m d es w1 HE1.out (by omega)).mono ?_; rintro e w2 ⟨E2, d2, rfl, he2, b2⟩
  have HE2 := Lib.hid he2
  have HA2 := Lib.hid (HA1.out.below b2)
  have B2 := Lib.hid (B1.out.trans (b2.mono B1.out.size))
  clear he2 b2
  go_wp2_with fail
  refine (new_c w2 (n + m) (by omega)).mono ?_; rintro e w3 ⟨f, g, rfl, hstk, hf, hg, hgl, b3⟩
  have HS := Lib.hid hstk
  have B3 := Lib.hid b3
  have hfl := hstk.head.lt
  clear hstk b3
  go_wp2_with fail
  clear hmk
  have K0 : Hid (Kept w2 (w3.alloc (.cells (madeCells #[.pointer none] n) 30)) w2.heap.size f g w3.heap.size (n + m) n 0 0 0 vs es (fillCells (ptrs g 0) n (.pointer none))) := by
    have e0 : madeCells #[.pointer none] n = fillCells (ptrs g 0) n (.pointer none) := fill_made n _
    exact ⟨⟨HS.out.head.alloc _, HS.out.big, HS.out.ne, World.there_alloc HS.out.row _⟩, fun i z hi _ => absurd hi (by omega), fun i z hi _ => absurd hi (by omega), by rw [← e0]; exact Blk.new _ _ _, B3.out.alloc B3.out.size _, ⟨hf, hg, B3.out.size⟩, by omega, by omega⟩
  generalize hw4 : w3.alloc (.cells (madeCells #[.pointer none] n) 30) = w4 at *
  clear hw4 HS
  generalize w3.heap.size = p at *
  go_loopw [8] (fun i wr => ∃ k : Nat, k ≤ n ∧ i = .int .i64 k ∧ Hid (Kept w2 wr w2.heap.size f g p (n + m) n k k 0 vs es (fillCells (ptrs g k) n (.pointer none)))) (fun i _ => n - (intOf i).toNat)
  case atStart => exact ⟨0, Nat.zero_le _, rfl, K0.out⟩
  case round =>
    obtain ⟨k, hk, rfl, hK⟩ := hrel
    by_cases hlt : k < n
    · obtain ⟨z, hz⟩ : ∃ z, vs[k]? = some z := ⟨vs[k]'(by have := HA2.out.1; rw [List.length_map] at this; omega), List.getElem?_eq_getElem _⟩
      obtain ⟨b, off, rfl, hbl, hc⟩ := (HA2.out.below hK.out.bel).2.2.2.2 (by omega)
      have ck : wr.cell? ⟨b, off + k, none⟩ = some (.int .i64 z) := hc k _ (by rw [List.getElem?_map, hz]; rfl)
      have HZ := Lib.hid hz
      have i0 : (0 : Int) ≤ (k : Int) := by omega
      have i1 : (k : Int) < (n : Int) := by omega
      clear hc hz
      go_wp2_with fail
      refine (push_c wr w2.heap.size f g (n + m) k (fr (-1 - (k : Int)) z k 0 2) hK.out.stk (by omega) rfl (fr_one _ _ _ _ _) ⟨hK.out.lo.1, hK.out.lo.2.1⟩).mono ?_; rintro e w5 ⟨rfl, s5, r5, t5, b5⟩
      have K5 := Lib.hid (hK.out.push1 HZ.out hlt s5 r5 t5 b5)
      clear s5 r5 t5 b5
      go_wp2_with fail
      refine (last_c w5 f g (n + m) (k + 1) K5.out.stk (by omega) (by omega)).mono ?_; rintro e w6 ⟨rfl, q6, rfl⟩
      have K6 := Lib.hid (K5.out.drewN q6)
      rw [Nat.add_sub_cancel]
      generalize w5.drewN q6 = w6 at *
      have fa := fill_at (ptrs g k) n (.pointer none) (by rw [ptrs_len]; exact hlt)
      have fs := fill_set (ptrs g k) n (.pointer none) (.pointer (some ⟨g, k * 10, none⟩)) (by rw [ptrs_len]; exact hlt)
      rw [ptrs_len] at fa fs
      rw [← ptrs_snoc] at fs
      have pk := (K6.out.ptr.cell k).trans fa
      have pf := K6.out.ptr.frozen k
      have K7 := Lib.hid (fs ▸ K6.out.setPtr k (.pointer (some ⟨g, k * 10, none⟩)))
      clear fa fs
      go_wp2_with fail
      go_roundw
      case rel => exact ⟨k + 1, by omega, by go_num, K7.out⟩
      case measure => simp [intOf]; omega
    · obtain rfl : k = n := by omega
      have K8 := hK
      have HP : Hid (∀ i, i < k → (fillCells (ptrs g k) k (.pointer none))[i]? = some (.pointer (some ⟨g, i * 10, none⟩))) := by
        intro i hi
        have := fill_full (ptrs g k) (.pointer none)
        rw [ptrs_len] at this
        rw [this]
        simp [ptrs, hi]
      generalize fillCells (ptrs g k) k (.pointer none) = P at K8 HP
      clear hK K0
      go_wp2_with fail
      go_loopw [10] (fun i wr => ∃ j : Nat, j ≤ m ∧ i = .int .i64 j ∧ Hid (Kept w2 wr w2.heap.size f g p (k + m) k (k + j) k j vs es P)) (fun i _ => m - (intOf i).toNat)
      case atStart => exact ⟨0, Nat.zero_le _, rfl, K8.out⟩
      case round =>
        obtain ⟨j, hj, rfl, hK⟩ := hrel
        by_cases hlt2 : j < m
        · obtain ⟨z, hz⟩ : ∃ z, es[j]? = some z := ⟨es[j]'(by have := HE2.out.1; rw [List.length_map] at this; omega), List.getElem?_eq_getElem _⟩
          obtain ⟨b, off, rfl, hbl, hc⟩ := (HE2.out.below hK.out.bel).2.2.2.2 (by omega)
          have ck : wr.cell? ⟨b, off + j, none⟩ = some (.int .i64 z) := hc j _ (by rw [List.getElem?_map, hz]; rfl)
          have HZ := Lib.hid hz
          have i0 : (0 : Int) ≤ (j : Int) := by omega
          have i1 : (j : Int) < (m : Int) := by omega
          clear hc hz
          go_wp2_with fail
          refine (push_c wr w2.heap.size f g (k + m) (k + j) (fr (j : Int) z (-1 - (j : Int)) 5 0) hK.out.stk (by omega) rfl (fr_one _ _ _ _ _) ⟨hK.out.lo.1, hK.out.lo.2.1⟩).mono ?_; rintro e w5 ⟨rfl, s5, r5, t5, b5⟩
          have K5 := Lib.hid (hK.out.push2 HZ.out s5 r5 t5 b5)
          clear s5 r5 t5 b5
          go_wp2_with fail
          go_roundw
          case rel => exact ⟨j + 1, by omega, by go_num, K5.out⟩
          case measure => simp [intOf]; omega
        · obtain rfl : j = m := by omega
          have e1 : ((k : Int) + (j : Int) == (k : Int) + (j : Int)) = true := by simp
          have e2 : (((k + j : Nat) : Int) == (k : Int) + (j : Int)) = true := by simp
          go_wp2_with fail
          refine (sp_c wr f g (k + j) (k + j) hK.out.stk).mono ?_; rintro e w' ⟨rfl, rfl⟩
          go_wp2_with fail
          have K9 := hK
          clear hK K8 e1 e2
          go_loopw [11] (fun i w' => ∃ a q : Nat, a ≤ k ∧ i = .int .i64 a ∧ w' = wr.drewN q) (fun i _ => k - (intOf i).toNat)
          case atStart => exact ⟨0, 0, Nat.zero_le _, rfl, rfl⟩
          case round =>
            obtain ⟨a, q, hak, rfl, rfl⟩ := hrel
            have KA := Lib.hid (K9.out.drewN q)
            have HW : Hid ((wr.drewN q).drew = wr.drewN (q + 1)) := rfl
            generalize wr.drewN q = wa at KA HW ⊢
            by_cases hlt3 : a < k
            · obtain ⟨z, hz⟩ : ∃ z, vs[a]? = some z := ⟨vs[a]'(by have := HA2.out.1; rw [List.length_map] at this; omega), List.getElem?_eq_getElem _⟩
              obtain ⟨b, off, rfl, hbl, hc⟩ := (HA2.out.below KA.out.bel).2.2.2.2 (by omega)
              have ck : wa.cell? ⟨b, off + a, none⟩ = some (.int .i64 z) := hc a _ (by rw [List.getElem?_map, hz]; rfl)
              have pk := (KA.out.ptr.cell a).trans (HP.out a hlt3)
              have HR := Lib.hid (KA.out.r1 a z hlt3 hz)
              have i0 : (0 : Int) ≤ (a : Int) := by omega
              have i1 : (a : Int) < (k : Int) := by omega
              have nq := neq_fr a z a 0 2
              have ng := guard_fr a z a 0 2
              clear hc hz
              go_wp2_with fail
              refine wp_region_still_lit (by kernel_rfl) (by kernel_rfl) ?_
              repeat still_step
              refine still_load_mid rfl 32 (.tmp 102) rfl g (a * 10) rfl (fr a z a 0 2) _ HR.out Try.underlying32 rfl (by rw [info32]; rfl) ?_
              repeat still_step
              refine wpStill_nil ?_
              clear nq ng
              go_wp2_with fail
              go_roundw
              case rel => exact ⟨a + 1, q + 1, by omega, by go_num, HW.out⟩
              case measure => simp [intOf]; omega
            · obtain rfl : a = k := by omega
              have i5 : (j : Int) ≤ 4096 := by omega
              go_wp2_with fail
              go_loopw [12] (fun i w' => ∃ (u sp : Nat) (v : Int), u ≤ j ∧ v = (u : Int) - 1 ∧ i = .int .i64 v ∧ Hid (Kept w2 w' w2.heap.size f g p (a + j) a sp a j vs es P)) (fun i _ => (intOf i + 1).toNat)
              case atStart => exact ⟨j, a + j, _, Nat.le_refl _, rfl, rfl, KA.out⟩
              case round =>
                obtain ⟨u, sp, v, huj, hv, rfl, hKB⟩ := hrel
                rcases Nat.eq_zero_or_pos u with h0 | h0
                · subst h0
                  obtain rfl : v = -1 := by omega
                  clear huj hv
                  go_wp2_with fail
                  go_loopw [14] (fun i w' => ∃ (u sp : Nat) (v : Int), u ≤ a ∧ v = (u : Int) - 1 ∧ i = .int .i64 v ∧ Hid (Kept w2 w' w2.heap.size f g p (a + j) a sp a j vs es P)) (fun i _ => (intOf i + 1).toNat)
                  case atStart => exact ⟨a, sp, _, Nat.le_refl _, rfl, rfl, hKB.out⟩
                  case round =>
                    obtain ⟨u, sp, v, hua, hv, rfl, hKE⟩ := hrel
                    rcases Nat.eq_zero_or_pos u with h0 | h0
                    · subst h0
                      obtain rfl : v = -1 := by omega
                      clear hua hv
                      go_wp2_with fail
                      go_ret
                      exact ⟨rfl, B2.out.trans (hKE.out.bel.mono B2.out.size)⟩
                    · obtain ⟨t, rfl⟩ : ∃ t, u = t + 1 := ⟨u - 1, by omega⟩
                      obtain rfl : v = (t : Int) := by omega
                      clear hv h0
                      have i6 : (0 : Int) ≤ (t : Int) := by omega
                      have i7 : (t : Int) < (a : Int) := by omega
                      go_wp2_with fail
                      refine (setSp_c wr f g (a + j) sp ((t : Int) + 1) hKE.out.stk).mono ?_; rintro e w' ⟨rfl, rfl⟩
                      have KC := Lib.hid (hKE.out.setSp (t + 1))
                      rw [show ((t + 1 : Nat) : Int) = (t : Int) + 1 by omega] at KC
                      generalize wr.setCell ⟨f, 1, none⟩ (.int .i64 ((t : Int) + 1)) = wc at *
                      have pk := (KC.out.ptr.cell t).trans (HP.out t (by omega))
                      have L := fun q => last_c (wc.drewN q) f g (a + j) (t + 1) (KC.out.stk.drewN q) (by omega) (by omega)
                      simp only [Nat.add_sub_cancel] at L
                      have HL := Lib.hid L
                      clear L
                      obtain ⟨j32, info32j, _⟩ := Option.map_eq_some_iff.1 info32
                      have nqp := fun W => Lib.run_neq_ptr_same (P := Try.prog) (w := W) ⟨g, t * 10, none⟩ Try.underlying30 info32j
                      go_wp2_with fail
                      go_quiet ((go_at_call 8; exact Calls.quiet_of ((HL.out _).mono fun _ _ ⟨he, m, hm⟩ => ⟨he, m, hm.symm⟩)))
                      go_wp2_with fail
                      go_roundw
                      case rel => exact ⟨t, t + 1, _, by omega, rfl, rfl, KC.out.drewN _⟩
                      case measure => simp [intOf]
                · obtain ⟨t, rfl⟩ : ∃ t, u = t + 1 := ⟨u - 1, by omega⟩
                  obtain rfl : v = (t : Int) := by omega
                  clear hv h0
                  have i6 : (0 : Int) ≤ (t : Int) := by omega
                  have i7 : (t : Int) < (j : Int) := by omega
                  go_wp2_with fail
                  refine (setSp_c wr f g (a + j) sp ((a : Int) + (t : Int) + 1) hKB.out.stk).mono ?_; rintro e w' ⟨rfl, rfl⟩
                  have KC := Lib.hid (hKB.out.setSp (a + t + 1))
                  rw [show ((a + t + 1 : Nat) : Int) = (a : Int) + (t : Int) + 1 by omega] at KC
                  generalize wr.setCell ⟨f, 1, none⟩ (.int .i64 ((a : Int) + (t : Int) + 1)) = wc at *
                  go_wp2_with fail
                  refine (last_c wc f g (a + j) (a + t + 1) KC.out.stk (by omega) (by omega)).mono ?_; rintro e w' ⟨rfl, q2, rfl⟩
                  have KD := Lib.hid (KC.out.drewN q2)
                  rw [Nat.add_sub_cancel]
                  generalize wc.drewN q2 = wd at *
                  obtain ⟨z, hz⟩ : ∃ z, es[t]? = some z := ⟨es[t]'(by have := HE2.out.1; rw [List.length_map] at this; omega), List.getElem?_eq_getElem _⟩
                  obtain ⟨b, off, rfl, hbl, hc⟩ := (HE2.out.below KD.out.bel).2.2.2.2 (by omega)
                  have ck : wd.cell? ⟨b, off + t, none⟩ = some (.int .i64 z) := hc t _ (by rw [List.getElem?_map, hz]; rfl)
                  have HR := Lib.hid (KD.out.r2 t z (by omega) hz)
                  have nq := neq_fr ((a : Int) + (t : Int)) z (-1 - (t : Int)) 5 0
                  have ng := guard_fr ((a : Int) + (t : Int)) z (-1 - (t : Int)) 5 0
                  clear hc hz
                  go_wp2_with fail
                  have t1 : IntKind.i64.wrap ((a : Int) + (t : Int)) = (a : Int) + (t : Int) := IntWalk.i64_in _ (by omega)
                  have t2 : IntKind.i64.wrap (-1 - (t : Int)) = -1 - (t : Int) := IntWalk.i64_in _ (by omega)
                  refine wp_region_still_lit (by kernel_rfl) (by kernel_rfl) ?_
                  repeat still_step
                  refine still_load_mid rfl 32 (.tmp 131) rfl g ((a + t) * 10) rfl (fr ((a : Int) + (t : Int)) z (-1 - (t : Int)) 5 0) _ HR.out Try.underlying32 rfl (by rw [info32]; rfl) ?_
                  repeat still_step
                  refine wpStill_nil ?_
                  clear nq ng t1 t2
                  go_wp2_with fail
                  go_roundw
                  case rel => exact ⟨t, a + t + 1, _, by omega, rfl, rfl, KD.out.drewN 1⟩
                  case measure => simp [intOf]

set_option maxRecDepth 100000 in
theorem law_frames (A1 : Option Addr) (n1 c1 : Nat) (vs : List Int) (A2 : Option Addr) (n2 c2 : Nat) (es : List Int) (w : World)
    (g1 : Arg w A1 n1 c1 (vs.map (Value.int .i64))) (r1 : ∀ x ∈ vs, -9223372036854775808 ≤ x ∧ x ≤ 9223372036854775807) (g2 : Arg w A2 n2 c2 (es.map (Value.int .i64))) (r2 : ∀ x ∈ es, -9223372036854775808 ≤ x ∧ x ≤ 9223372036854775807) :
    Calls Try.prog 3 #[.slice A1 n1 c1, .slice A2 n2 c2] w fun e w' => e = .returned (.bool true) ∧ Below w.heap.size w w' := by
  have m1 : n1 ≤ 9223372036854775807 := by have h1 := g1.2.1; have h2 := g1.2.2.1; unfold maxLen at h2; omega
  have m2 : n2 ≤ 9223372036854775807 := by have h1 := g2.2.1; have h2 := g2.2.2.1; unfold maxLen at h2; omega
  by_cases hn : n1 ≤ 4096
  · by_cases hm : n2 ≤ 4096
    · exact main_c A1 A2 n1 n2 c1 c2 vs es w g1 g2 hn hm
    · have hm' : 4096 < n2 := by omega
      clear hm g1 g2 r1 r2
      go_enter Try.func3, Try.ntmps3
      go_wp2_with (go_at_call 4; go_in)
      all_goals (go_ret; exact ⟨rfl, Below.refl _ _⟩)
  · have hn' : 4096 < n1 := by omega
    clear hn g1 g2 r1 r2
    go_enter Try.func3, Try.ntmps3
    go_wp2_with (go_at_call 4; go_in)
    all_goals (go_ret; exact ⟨rfl, Below.refl _ _⟩)
end Go.Proofs.Ytbjpndoocidfbaa
