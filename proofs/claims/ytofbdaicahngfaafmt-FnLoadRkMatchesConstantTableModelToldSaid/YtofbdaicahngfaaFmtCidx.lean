/-
  The walk through ConstIndex: the string's place in the table of constants; a new one is put behind it.
-/
import Derived.Test.YtofbdaicahngfaaFmtIdx
import Derived.Deep.RegionLaw
import Derived.Deep.AppendLies
import Derived.Deep.DrawnRows
namespace Go.Proofs.YtofbdaicahngfaaFmt
open Go.RowKit
set_option linter.unusedVariables false
attribute [local go_sem ↓] Go.wp_at_zero Go.wp_at_succ

theorem method_type (s : ByteArray) (w : World) : (method 265 61 (.string s) "Type").run Tryf.prog w = .ok (82, .string s) w := by kernel_rfl
theorem type_c (s : ByteArray) (w : World) : Calls Tryf.prog 82 #[.string s] w fun e w' => e = .returned (.int .i64 3) ∧ w = w' := by
  go_enter Tryf.func82, Tryf.ntmps82
  go_wp2
  go_ret
  exact ⟨rfl, rfl⟩

theorem run_eql_iface_str (w : World) (a b : ByteArray) : (binOp .eql 77 (.iface 61 (.string a)) (.iface 61 (.string b))).run Tryf.prog w = .ok (.bool (a == b)) w := by
  have hc : (Tryf.prog.info? 61).map (·.comparable) = some true := by kernel_rfl
  cases hi : Tryf.prog.info? 61 with
  | none => simp [hi] at hc
  | some i =>
    have hcc : i.comparable = true := by simpa [hi] using hc
    have h : ∀ d : Nat, (Op.equalIn (d + 2) 77 (.iface 61 (.string a)) (.iface 61 (.string b))).run Tryf.prog w = .ok (a == b) w := fun d => by
      simp [Op.equalIn, run_underlying Tryf.underlying77, run_underlying Tryf.underlying61, typeInfo, hi, hcc]
    simp only [binOp]
    simp [Op.equal, Op.maxDepth, h 9998]
theorem beq_data (a b : ByteArray) : (a == b) = (a.data == b.data) := by
  cases a; cases b; rfl
theorem beq_ne {a b : ByteArray} (h : a ≠ b) : (a == b) = false := by
  rw [beq_data]
  refine beq_eq_false_iff_ne.2 fun e => h ?_
  cases a; cases b
  simpa using e
theorem eql_same (s : ByteArray) (w : World) : (binOp .eql 77 (.iface 61 (.string s)) (.iface 61 (.string s))).run Tryf.prog w = .ok (.bool true) w := by
  rw [run_eql_iface_str, beq_data]
  simp
theorem eql_ne {z s : ByteArray} (h : z ≠ s) (w : World) : (binOp .eql 77 (.iface 61 (.string z)) (.iface 61 (.string s))).run Tryf.prog w = .ok (.bool false) w := by
  rw [run_eql_iface_str, beq_ne h]

theorem Store.grown {w w' : World} {B B' d n : Nat} {S L : List Int} {v : Value} {xs : List Value} (h : Store w B d S L) (ho : w.ownsRow B' 77 1 v n xs) (hg : w.grownBy w' v.ownBlock) : Store w' B d S L := by
  obtain ⟨g1, c1, g2, c2, cs, ls, k1, k2, k3, k4, k5, k6, k7, k8, k9⟩ := h
  exact ⟨g1, c1, g2, c2, cs, ls, k1, k2, k3, k4, k5, k6, k7.grown hg (Ne.symm (own_blk_ne ho k7 (by decide))), k8.kept hg (own_own_ne k8 ho (by decide)), k9.kept hg (own_own_ne k9 ho (by decide))⟩
theorem Fp.same {w w' : World} {d b : Nat} (hk : w'.heap[d]? = w.heap[d]?) (h : Fp w' d b) : Fp w d b := by
  unfold Fp at *
  rwa [cell_same hk, cell_same hk] at h

/-- What a new constant leaves of the context. -/
theorem put_const {w w1 : World} {B f r pb cb g c gg cap n : Nat} {C C' : Array Value} {s : ByteArray} {cs : List ByteArray} {S L : List Int} {o : Obj} (hB : B ≤ f) (hB' : B ≤ pb) (hn : cs.length = n) (hm : n + 1 ≤ 1048576) (hf : Blk w f 50 C) (c0 : C[0]? = some (.pointer (some ⟨pb, 0, none⟩)))
    (c1 : C[1]? = some (.pointer (some ⟨cb, 0, none⟩))) (hp : Blk w pb 68 C') (c8 : C'[8]? = some (.slice (some ⟨g, 0, none⟩) n c)) (ho : w.ownsRow B 77 1 (.slice (some ⟨g, 0, none⟩) n c) n (cs.map sv)) (hS : Store w B cb S L)
    (hgrow : (w.alloc o).grownBy w1 (some g)) (hown : w1.ownsRow B 77 1 (.slice (some ⟨gg, 0, none⟩) (n + 1) cap) (n + 1) (cs.map sv ++ [sv s])) (hat : some g = some gg ∨ gg = w.heap.size + 1) :
    FC (w1.setCell ⟨pb, 8, none⟩ (.slice (some ⟨gg, 0, none⟩) (n + 1) cap)) B f (cs ++ [s]) S L ∧ Below B w (w1.setCell ⟨pb, 8, none⟩ (.slice (some ⟨gg, 0, none⟩) (n + 1) cap)) ∧
      FarC w (w1.setCell ⟨pb, 8, none⟩ (.slice (some ⟨gg, 0, none⟩) (n + 1) cap)) f r := by
  have hb : Below w.heap.size w (w.alloc o) := (Below.refl _ _).alloc (Nat.le_refl _) _
  have hoa := own_below ho hb
  have nf : f ≠ pb := Blk.ne_ hf hp (by decide)
  obtain ⟨cur, hgh, hBg⟩ := own_heap ho
  have hglt := (Array.getElem?_eq_some_iff.1 hgh).1
  have ngf : some f ≠ some g := Ne.symm (own_blk_ne ho hf (by decide))
  have ngp : some pb ≠ some g := Ne.symm (own_blk_ne ho hp (by decide))
  have hf1 : Blk w1 f 50 C := (hf.alloc o).grown hgrow ngf
  have hp1 : Blk w1 pb 68 C' := (hp.alloc o).grown hgrow ngp
  have hs1 : Store w1 B cb S L := (hS.below hb).grown (v := .slice (some ⟨g, 0, none⟩) n c) hoa hgrow
  have hcb : cb ≠ pb ∧ cb ≠ g ∧ cb < w.heap.size := by
    obtain ⟨g1, n1, g2, n2, ds, ls, k1, k2, k3, k4, k5, k6, k7, k8, k9⟩ := hS
    exact ⟨Blk.ne_ k7 hp (by decide), fun e => own_blk_ne ho k7 (by decide) (by rw [e]; rfl), k7.lt⟩
  have hk : ∀ b, b < w.heap.size → b ≠ pb → b ≠ g → (w1.setCell ⟨pb, 8, none⟩ (.slice (some ⟨gg, 0, none⟩) (n + 1) cap)).heap[b]? = w.heap[b]? := fun b hlt h1 h2 => by
    rw [Below.heap_setCell _ _ _ _ h1, hgrow.block b (by simp; omega) (fun e => h2 (Option.some.inj e)), Below.heap_alloc _ _ _ hlt]
  have hsz : w.heap.size ≤ w1.heap.size := by have := hgrow.size; simp at this; omega
  have hC8 : 8 < C'.size := (Array.getElem?_eq_some_iff.1 c8).1
  refine ⟨⟨pb, cb, C, hB, hf1.far (p := ⟨pb, 8, none⟩) nf _, c0, c1, ⟨gg, cap, C'.setIfInBounds 8 (.slice (some ⟨gg, 0, none⟩) (n + 1) cap), hB', by simp [hn]; omega, ?_, ?_, ?_⟩, hs1.set_ hp1 (by decide) (by decide) (by decide)⟩, ?_, ?_⟩
  · exact hp1.set_ 8 _
  · rw [List.length_append, hn]
    simp [hC8]
  · rw [List.length_append, hn, List.map_append]
    exact own_set_blk hown hp1 (by decide) 8 _
  · have hbb : Below B w (w.alloc o) := hb.mono (Nat.le_trans hB (Nat.le_of_lt hf.lt))
    exact (hbb.grown hgrow (by simp; have := hf.lt; omega) (fun j hj => by cases hj; exact hBg)).setCell hB' _
  · refine ⟨by simpa [World.setCell] using hsz, fun b hlt hu hr => hk b hlt (fun e => ?_) (fun e => ?_), fun b hu => ?_⟩
    · exact hu (.inr (.inl ⟨pb, by rw [hf.cell]; exact c0, .inl e⟩))
    · exact hu (.inr (.inl ⟨pb, by rw [hf.cell]; exact c0, .inr ⟨g, _, _, by rw [hp.cell]; exact c8, e⟩⟩))
    · have q0 := (hf1.far (p := ⟨pb, 8, none⟩) nf (.slice (some ⟨gg, 0, none⟩) (n + 1) cap)).cell 0
      have q1 := (hf1.far (p := ⟨pb, 8, none⟩) nf (.slice (some ⟨gg, 0, none⟩) (n + 1) cap)).cell 1
      have q8 := (hp1.set_ 8 (.slice (some ⟨gg, 0, none⟩) (n + 1) cap)).cell 8
      rw [c0] at q0
      rw [c1] at q1
      rw [Array.getElem?_setIfInBounds_self_of_lt hC8] at q8
      have z0 : w.cell? ⟨f, 0, none⟩ = some (.pointer (some ⟨pb, 0, none⟩)) := by rw [hf.cell]; exact c0
      have z1 : w.cell? ⟨f, 1, none⟩ = some (.pointer (some ⟨cb, 0, none⟩)) := by rw [hf.cell]; exact c1
      have z8 : w.cell? ⟨pb, 8, none⟩ = some (.slice (some ⟨g, 0, none⟩) n c) := by rw [hp.cell]; exact c8
      rcases hu with rfl | ⟨p, e, hu⟩ | ⟨d, e, hu⟩
      · exact .inl (.inl rfl)
      · obtain rfl : pb = p := by rw [q0] at e; simpa using e
        rcases hu with rfl | ⟨g', n', c', e', rfl⟩
        · exact .inl (.inr (.inl ⟨b, z0, .inl rfl⟩))
        · obtain rfl : gg = b := by rw [q8] at e'; simp at e'; exact e'.1
          rcases hat with h | h
          · exact .inl (.inr (.inl ⟨pb, z0, .inr ⟨g, _, _, z8, (Option.some.inj h).symm⟩⟩))
          · exact .inr (by omega)
      · obtain rfl : cb = d := by rw [q1] at e; simpa using e
        exact .inl (.inr (.inr ⟨cb, z1, hu.same (hk cb hcb.2.2 hcb.1 hcb.2.1)⟩))

/-- The step law for 'append(constants, value)' in the region that draws. -/
theorem step_const {ops : Array Oper} {o : Oper} {a : Act} {K : Act → World → Prop} {Q : Exit → Act → World → Prop} {E : Prop} (hgd : o.guard = none) (x y : Operand) (ho : o.op = .call { callee := .builtin .append, args := #[x, y], argTypes := #[63, 63] })
    (w : World) (B g k c : Nat) (s : ByteArray) (xs : List Value) (hs : a.eval x = .slice (some ⟨g, 0, none⟩) k c) (hy : a.eval y = .slice (some ⟨w.heap.size, 0, none⟩) 1 1) (hown : w.ownsRow B 77 1 (.slice (some ⟨g, 0, none⟩) k c) k xs)
    (hk : k + 1 ≤ 1048576) (hB : B ≤ w.heap.size)
    (h : ∀ gg cap w', w'.ownsRow B 77 1 (.slice (some ⟨gg, 0, none⟩) (k + 1) cap) (k + 1) (xs ++ [.iface 61 (.string s)]) → (w.alloc (.cells #[.iface 61 (.string s)] 77)).grownBy w' (some g) → (some g = some gg ∨ gg = w.heap.size + 1) → K (a.put o.dst (.slice (some ⟨gg, 0, none⟩) (k + 1) cap)) w') :
    if Region.wanted o (yielded ops a.tmps) = true then Oper.wp Tryf.prog o a (w.alloc (.cells #[.iface 61 (.string s)] 77)).drew K Q else E := by
  obtain ⟨i1, hi1, hz1, hs1, hb1⟩ := info_parts i77
  have hM : 1048576 ≤ maxLen := by unfold maxLen; omega
  refine step_append_lies (w := (w.alloc (.cells #[.iface 61 (.string s)] 77)).drew) hgd x y 63 ho B 77 i1 _ 1 16 Tryf.underlying63 hi1 hz1 hs1 hb1 rfl (by omega) (.slice (some ⟨g, 0, none⟩) k c) k xs hs (hown.alloc _) ⟨w.heap.size, 0, none⟩ 1 1 [.iface 61 (.string s)] hy rfl
    (World.news_of_block (cs := #[.iface 61 (.string s)]) (t := 77) (fr := (0, 0)) (heap_alloc_new w _)) (by simp [Value.oneCell']) (by omega) (by omega) (by omega) (by simp; omega) (w.heap.size + 1) (by simp) ?_
  intro gg cap w1 hown1 hgrow hat hlt
  exact h gg cap w1 hown1 ⟨hgrow.os, hgrow.tape, hgrow.output, hgrow.size, hgrow.block⟩ hat

set_option maxHeartbeats 8000000 in
set_option maxRecDepth 100000 in
theorem constIndex_c (w : World) (B f r : Nat) (s : ByteArray) (cs : List ByteArray) (S L : List Int) (h : FC w B f cs S L) (hmax : cs.length < 262143) :
    Calls Tryf.prog 23 #[.pointer (some ⟨f, 0, none⟩), .iface 61 (.string s)] w fun e w' => e = .returned (.int .i64 (idx cs s)) ∧ FC w' B f (ins cs s) S L ∧ Below B w w' ∧ FarC w w' f r := by
  have H := Lib.hid h
  obtain ⟨pb, cb, C, hB, hf, c0, c1, ⟨g, c, C', hB', hm, hp, c8, ho⟩, hS⟩ := h
  have p0 : w.cell? ⟨f, 0, none⟩ = some (.pointer (some ⟨pb, 0, none⟩)) := by rw [hf.cell]; exact c0
  have p8 : w.cell? ⟨pb, 8, none⟩ = some (.slice (some ⟨g, 0, none⟩) cs.length c) := by rw [hp.cell]; exact c8
  have HF := Lib.hid hf
  have HP := Lib.hid hp
  have HO := Lib.hid ho
  have HS := Lib.hid hS
  have C0 := Lib.hid c0
  have C1 := Lib.hid c1
  have C8 := Lib.hid c8
  clear hf hp ho hS c0 c1 c8
  generalize hn : cs.length = n at *
  have HN := Lib.hid hn
  clear hn
  have e1 := method_type s
  go_enter Tryf.func23, Tryf.ntmps23
  go_wp2_with (go_at_call 82; refine (type_c s _).mono ?_; rintro e w' ⟨rfl, rfl⟩)
  go_loopw [19] (fun i wr => ∃ k : Nat, k ≤ n ∧ i = .int .i64 k ∧ k ≤ idx cs s ∧ wr = w) (fun i _ => n - (intOf i).toNat)
  case atStart => exact ⟨0, Nat.zero_le _, rfl, Nat.zero_le _, rfl⟩
  case round =>
    obtain ⟨k, hk, rfl, hki, rfl⟩ := hrel
    by_cases hlt : k < n
    · obtain ⟨z, hz⟩ : ∃ z, cs[k]? = some z := ⟨cs[k]'(by rw [HN.out]; exact hlt), List.getElem?_eq_getElem _⟩
      have q : wr.cell? ⟨g, k, none⟩ = some (.iface 61 (.string z)) := by rw [HO.out.cellAt k (by omega), List.getElem?_map, hz]; rfl
      have HZ := Lib.hid hz
      have HKI := Lib.hid hki
      clear hz hki
      have i0 : (0 : Int) ≤ (k : Int) := by omega
      have i1 : (k : Int) < (n : Int) := by omega
      have e2 := method_type z
      by_cases hzs : z = s
      · subst hzs
        have e3 := eql_same z
        have HI := Lib.hid (idx_at HKI.out HZ.out)
        go_wp2_with (go_at_call 82; refine (type_c z _).mono ?_; rintro e w' ⟨rfl, rfl⟩)
        go_ret
        have hlt' : idx cs z < cs.length := by rw [HI.out, HN.out]; exact hlt
        refine ⟨by rw [HI.out]; rfl, ?_, Below.refl _ _, FarC.refl _ _ _⟩
        rw [ins, if_pos hlt']
        exact H.out
      · have e3 := eql_ne hzs
        have HI := Lib.hid (idx_step HKI.out HZ.out hzs)
        have HZS := Lib.hid hzs
        clear hzs
        go_wp2_with (go_at_call 82; refine (type_c z _).mono ?_; rintro e w' ⟨rfl, rfl⟩)
        go_roundw
        case rel => exact ⟨k + 1, by omega, by go_num, HI.out, by first | trivial | rfl⟩
        case measure => simp [intOf]; omega
    · obtain rfl : k = n := by omega
      have hnl : ¬ idx cs s < cs.length := by rw [HN.out]; omega
      have HNL := Lib.hid hnl
      have HKI : Hid (idx cs s = k) := by have := idx_le cs s; rw [HN.out] at this; show _ = _; omega
      obtain ⟨i1, hi1, hz1, hs1, hb1⟩ := info_parts i77
      have nf : f ≠ pb := Blk.ne_ HF.out HP.out (by decide)
      have ngp : some pb ≠ some g := Ne.symm (own_blk_ne HO.out HP.out (by decide))
      have ngf : some f ≠ some g := Ne.symm (own_blk_ne HO.out HF.out (by decide))
      have p0' : (wr.alloc (.cells #[.iface 61 (.string s)] 77)).cell? ⟨f, 0, none⟩ = some (.pointer (some ⟨pb, 0, none⟩)) := by rw [(HF.out.alloc _).cell]; exact C0.out
      have p8' : (wr.alloc (.cells #[.iface 61 (.string s)] 77)).cell? ⟨pb, 8, none⟩ = some (.slice (some ⟨g, 0, none⟩) k c) := by rw [(HP.out.alloc _).cell]; exact C8.out
      have hbw : B ≤ wr.heap.size := Nat.le_trans hB (Nat.le_of_lt HF.out.lt)
      have hk1 : k + 1 ≤ 1048576 := by omega
      have hk2 : ¬ (262143 : Int) < (k : Int) := by omega
      clear hki hnl e1 hlt hk
      go_wp2_with fail
      go_region_law ((refine step_const (by rfl) _ _ (by rfl) wr B g k c s (cs.map sv) (by rfl) (by rfl) HO.out hk1 hbw ?_; intro gg cap w1 hown1 hgrow1 hat1; have hp1 := (HP.out.alloc (.cells #[.iface 61 (.string s)] 77)).grown hgrow1 ngp; have hf1 := (HF.out.alloc (.cells #[.iface 61 (.string s)] 77)).grown hgrow1 ngf; have r8 := (hp1.cell 8).trans C8.out; have fr8 := hp1.frozen 8; have r0 := (hf1.cell 0).trans C0.out; have HH := Lib.hid (And.intro hown1 (And.intro hgrow1 hat1)); clear hp1 hf1 hown1 hgrow1 hat1))
      all_goals
        go_wp2
        go_ret
        obtain ⟨hown1, hgrow1, hat1⟩ := HH.out
        have hq := put_const (r := r) hB hB' HN.out hk1 HF.out C0.out C1.out HP.out C8.out HO.out HS.out hgrow1 hown1 hat1
        rw [ins, if_neg HNL.out]
        refine ⟨?_, hq⟩
        rw [HKI.out]
        first
          | rfl
          | exact ret_int (by omega)
end Go.Proofs.YtofbdaicahngfaaFmt
