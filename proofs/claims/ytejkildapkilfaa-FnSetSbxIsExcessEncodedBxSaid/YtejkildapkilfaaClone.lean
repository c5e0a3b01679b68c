/-
  The walk through cloneU32: of a slice that has elements it makes a new row that holds the same words; nothing else turns.
-/
import Derived.Test.YtejkildapkilfaaRows
import Derived.Test.YtejkildapkilfaaBase
import Derived.Deep.OwnRows
import Derived.WalkSpells
import Derived.Outline
namespace Go.Proofs.Ytejkildapkilfaa
open Go.RowKit
set_option linter.unusedVariables false

theorem info34 : (Try.prog.info? 34).map (fun i => (i.zero, i.size, i.bytes)) = some (some (.int .u32 0), 1, 4) := by kernel_rfl

theorem clone_c (A : Option Addr) (n c : Nat) (zs : List Int) (w : World) (h : Arg w A n c (zs.map (Value.int .u32))) (hn : 0 < n) (hm : n ≤ 65536) :
    Calls Try.prog 15 #[.slice A n c] w fun e w' => e = .returned (.slice (some ⟨w.heap.size, 0, none⟩) n n) ∧ w' = w.alloc (.cells (rowI .u32 zs) 34) := by
  obtain ⟨h1, h2, h3, _, h5⟩ := h
  obtain ⟨b, off, rfl, hb, hc⟩ := h5 hn
  have hl : zs.length = n := by simpa using h1
  have HL : Hid (zs.length = n) := hl
  have HC : Hid (∀ i u, (zs.map (Value.int .u32))[i]? = some u → w.cell? ⟨b, off + i, none⟩ = some u) := hc
  have hmk := fun W => run_make_row' (P := Try.prog) 26 34 (.int .u32 0) 4 Try.underlying26 info34 rfl .i64 .i64 n (by omega) (by omega) W
  have hne := @Lib.run_eql_slice_nil Try.prog
  clear h1 h5 hc hl
  go_enter Try.func15, Try.ntmps15
  go_wp2
  clear hmk hne
  go_loopw [4] (fun i wr => ∃ k : Nat, k ≤ n ∧ i = .int .i64 k ∧ wr = w.alloc (.cells (fillCells ((zs.take k).map (Value.int .u32)) n (.int .u32 0)) 34)) (fun i _ => n - (intOf i).toNat)
  case atStart => exact ⟨0, Nat.zero_le _, rfl, by rw [fill_made]; rfl⟩
  case round =>
    obtain ⟨k, hk, rfl, rfl⟩ := hrel
    by_cases hlt : k < n
    · obtain ⟨z, hz⟩ : ∃ z, zs[k]? = some z := ⟨zs[k]'(by rw [HL.out]; exact hlt), List.getElem?_eq_getElem _⟩
      have hcell : w.cell? ⟨b, off + k, none⟩ = some (.int .u32 z) := HC.out k _ (by simp [hz])
      have hlen : ((zs.take k).map (Value.int .u32)).length = k := by simp [HL.out]; omega
      have hat := fill_at ((zs.take k).map (Value.int .u32)) n (.int .u32 0) (by omega)
      have hset := fill_set ((zs.take k).map (Value.int .u32)) n (.int .u32 0) (.int .u32 z) (by omega)
      rw [hlen] at hat hset
      have hsn : (zs.take (k + 1)).map (Value.int .u32) = (zs.take k).map (Value.int .u32) ++ [.int .u32 z] := by rw [List.take_add_one, hz]; simp
      rw [← hsn] at hset
      generalize fillCells ((zs.take k).map (Value.int .u32)) n (.int .u32 0) = C at *
      have HS : Hid (C.setIfInBounds k (.int .u32 z) = fillCells ((zs.take (k + 1)).map (Value.int .u32)) n (.int .u32 0)) := hset
      clear hz hlen hsn hset
      go_wp2
      go_roundw
      case rel => exact ⟨k + 1, by omega, by go_num, by rw [HS.out]⟩
      case measure => simp [intOf]; omega
    · obtain rfl : k = n := by omega
      rw [rowI_fill .u32 zs k HL.out]
      go_wp2
      go_ret
      exact ⟨rfl, rfl⟩
end Go.Proofs.Ytejkildapkilfaa
