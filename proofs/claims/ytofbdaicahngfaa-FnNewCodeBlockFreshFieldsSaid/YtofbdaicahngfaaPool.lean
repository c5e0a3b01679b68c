/-
  The walks through the pool of variable names and through the chain of code blocks.
-/
import Derived.Test.YtofbdaicahngfaaCopy
import Derived.Deep.AppendLies
import Derived.Deep.DeepMust
namespace Go.Proofs.Ytofbdaicahngfaa
open Go.RowKit
set_option linter.unusedVariables false

theorem info9 : (Try.prog.info? 9).map (fun i => (i.zero, i.size, i.bytes)) = some (some (.string ⟨#[]⟩), 1, 16) := by kernel_rfl

/-- make with a length of 0 and a capacity, elements of one cell. -/
theorem run_make_cap (t e : TypeId) (z : Value) (bytes : Nat) (ht : Try.prog.underlying t = some (.slice e)) (hinfo : (Try.prog.info? e).map (fun i => (i.zero, i.size, i.bytes)) = some (some z, 1, bytes)) (hz1 : z.cells = #[z])
    (c : Nat) (hbytes : bytes * c ≤ 281474976710656) (h63 : c ≤ 9223372036854775807) (w : World) :
    (Instr.makeSlice t (.int .i64 0) (.int .i64 (c : Int))).run Try.prog w = .ok (.slice (some ⟨w.heap.size, 0, none⟩) 0 c) (w.alloc (.cells (madeCells #[z] c) e)) := by
  obtain ⟨i, hi, hzz⟩ := Option.map_eq_some_iff.1 hinfo
  simp only [Prod.mk.injEq] at hzz
  obtain ⟨hz, hs, hb⟩ := hzz
  have hb' : (i.bytes : Int) * (c : Int) ≤ 281474976710656 := by
    have h : ((i.bytes * c : Nat) : Int) ≤ 281474976710656 := by rw [hb]; omega
    rwa [Int.natCast_mul] at h
  have hr := run_make (P := Try.prog) w t e i z ht hi hz .i64 .i64 0 c (by omega) (by omega) hb' (by omega)
  simp only [Int.toNat_natCast, hs, Nat.mul_one, hz1] at hr
  exact hr

/-- Block p is a pool of m names with that offset; it and its row lie from block B on. -/
def Pool (w : World) (B p m : Nat) (off : Int) : Prop :=
  ∃ g c xs, B ≤ p ∧ Blk w p 52 #[.slice (some ⟨g, 0, none⟩) m c, .int .i64 off] ∧ w.ownsRow B 9 1 (.slice (some ⟨g, 0, none⟩) m c) m xs ∧ m ≤ 1048576

theorem newPool_c (off : Int) (w : World) : Calls Try.prog 9 #[.int .i64 off] w fun e w' => ∃ p, e = .returned (.pointer (some ⟨p, 0, none⟩)) ∧ Pool w' w.heap.size p 0 off ∧ Below w.heap.size w w' := by
  have hm : ∀ W : World, (Instr.makeSlice 22 (.int .i64 0) (.int .i64 16)).run Try.prog W = .ok (.slice (some ⟨W.heap.size, 0, none⟩) 0 16) (W.alloc (.cells (madeCells #[.string ⟨#[]⟩] 16) 9)) :=
    fun W => run_make_cap 22 9 (.string ⟨#[]⟩) 16 Try.underlying22 info9 rfl 16 (by decide) (by decide) W
  go_enter Try.func9, Try.ntmps9
  go_wp2_with (go_at_call 22; go_in)
  go_ret
  refine ⟨w.heap.size + 1, rfl, ⟨w.heap.size, 16, [], by omega, Blk.new_at _ _ _ (by simp), (own_made w 9 _ 16 rfl (Nat.le_refl _) (by unfold maxLen; omega)).alloc _, by omega⟩, ?_⟩
  repeat (first | exact Below.refl _ _ | refine Below.alloc ?_ (by simp <;> omega) _)

theorem lastIndex_c (w : World) (B p m : Nat) (off : Int) (h : Pool w B p m off) (h0 : 0 ≤ off) (h1 : off + m ≤ 1048576) : Calls Try.prog 15 #[.pointer (some ⟨p, 0, none⟩)] w fun e w' => e = .returned (.int .i64 (off + m)) ∧ ∃ q, w' = w.drewN q := by
  obtain ⟨g, c, xs, hB, hblk, hown, hm⟩ := h
  have p0 : w.cell? ⟨p, 0, none⟩ = some (.slice (some ⟨g, 0, none⟩) m c) := by rw [hblk.cell]; rfl
  have p1 : w.cell? ⟨p, 1, none⟩ = some (.int .i64 off) := by rw [hblk.cell]; rfl
  have t1 : IntKind.i64.wrap (off + (m : Int)) = off + (m : Int) := IntWalk.i64_in _ (by omega)
  clear hblk hown
  go_enter Try.func15, Try.ntmps15
  go_wp2_with (go_at_call 26; go_in)
  go_quiet (fail)
  go_wp2
  go_ret
  exact ⟨rfl, _, rfl⟩

theorem register_c (w : World) (B p m : Nat) (off : Int) (s : ByteArray) (h : Pool w B p m off) (hm : m < 1048576) (h0 : 0 ≤ off) (h1 : off + m ≤ 1048576) :
    Calls Try.prog 10 #[.pointer (some ⟨p, 0, none⟩), .string s] w fun e w' => (∃ v, e = .returned (.int .i64 v)) ∧ Pool w' B p (m + 1) off ∧ Below B w w' ∧ ∀ d cs, Blk w d 33 cs → Blk w' d 33 cs := by
  obtain ⟨g, c, xs, hB, hblk, hown, hmm⟩ := h
  obtain ⟨i1, hi1, hz1, hs1, hb1⟩ := info_parts info9
  have p0 : w.cell? ⟨p, 0, none⟩ = some (.slice (some ⟨g, 0, none⟩) m c) := by rw [hblk.cell]; rfl
  have p1 : w.cell? ⟨p, 1, none⟩ = some (.int .i64 off) := by rw [hblk.cell]; rfl
  have f0 := hblk.frozen 0
  have n1 : g ≠ p := fun e => own_blk_ne hown hblk (by decide) (by rw [e]; rfl)
  have hg := hown.lt g rfl
  have HB := Lib.hid hblk
  have HO := Lib.hid hown
  clear hblk hown
  go_enter Try.func10, Try.ntmps10
  go_wp2_with (first
    | (go_at_call 23; go_in)
    | (at_builtin; go_must (refine wpList_append_lies _ rfl (.tmp 9) (.tmp 11) _ rfl B 9 i1 _ 1 16 Try.underlying22 hi1 hz1 hs1 hb1 rfl (by omega) (.slice (some ⟨g, 0, none⟩) _ c) _ xs rfl (HO.out.alloc _) ⟨w.heap.size, 0, none⟩ 1 1 [.string s] rfl rfl (World.news_of_block (cs := #[.string s]) (t := 9) (fr := (0, 0)) (heap_alloc_new w _)) (by simp [Value.oneCell']) (by omega) (by unfold maxLen; omega) (by omega) (by simp; omega) (w.heap.size + 1) (by simp) ?_)))
  intro gg cap w1 hown1 hgrow1 hat1 hlt1
  have HB1 := Lib.hid ((HB.out.alloc (.cells #[.string s] 9)).grown hgrow1 (by simpa [Value.ownBlock] using Ne.symm n1))
  have P0 := HB1.out.cell 0
  have P1 := HB1.out.cell 1
  have F0 := HB1.out.frozen 0
  simp only [List.getElem?_toArray, List.getElem?_cons_zero, List.getElem?_cons_succ] at P0 P1
  have HO1 := Lib.hid hown1
  have HG1 := Lib.hid hgrow1
  clear hown1 hgrow1 hat1
  go_wp2_with fail
  go_quiet (fail)
  go_wp2_with fail
  go_ret
  refine ⟨⟨(m : Int) + off, rfl⟩, ⟨gg, cap, xs ++ [.string s], hB, ?_, ?_, by omega⟩, ?_, ?_⟩
  · exact HB1.out.set_ 0 (.slice (some ⟨gg, 0, none⟩) (m + 1) cap)
  · exact own_set_blk HO1.out HB1.out (by decide) 0 _
  · exact below_drewN ((((Below.refl B w).alloc (by omega) _).grown HG1.out (by simp; omega) (fun j hj => by simp [Value.ownBlock] at hj; omega)).setCell hB _) _
  · intro d cs hd
    have hne : d ≠ p := Blk.ne_ hd HB.out (by decide)
    have hne2 : d ≠ g := fun e => own_blk_ne HO.out hd (by decide) (by rw [e]; rfl)
    exact (((hd.alloc _).grown HG1.out (by simpa [Value.ownBlock] using hne2)).far (p := ⟨p, 0, none⟩) hne _)
end Go.Proofs.Ytofbdaicahngfaa
