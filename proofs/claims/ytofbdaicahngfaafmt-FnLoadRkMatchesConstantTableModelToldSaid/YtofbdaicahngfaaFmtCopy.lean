/-
  The walks through the helpers that copy a slice: nil stays nil, all else becomes a new row that holds the same elements.
-/
import Derived.Test.YtofbdaicahngfaaFmtRows
import Derived.Test.YtofbdaicahngfaaFmtBase
import Derived.Deep.OwnRows
import Derived.WalkSpells
import Derived.Outline
namespace Go.Proofs.YtofbdaicahngfaaFmt
open Go.RowKit
set_option linter.unusedVariables false

theorem info_copy_str : (Tryf.prog.info? 9).map (fun i => (i.zero, i.size, i.bytes)) = some (some (.string ⟨#[]⟩), 1, 16) := by kernel_rfl

theorem copy_str (A : Option Addr) (n c : Nat) (zs : List ByteArray) (w : World) (h : Arg w A n c (zs.map Value.string)) (hm : n ≤ 1048576) : Calls Tryf.prog 6 #[.slice A n c] w (CopyPost w n (zs.map Value.string)) := by
  have hne := @Lib.run_eql_slice_nil Tryf.prog
  rcases A with _ | a
  · obtain ⟨rfl, rfl⟩ := h.2.2.2.1 rfl
    have HA := Lib.hid h
    clear h
    go_enter Tryf.func6, Tryf.ntmps6
    go_wp2
    go_ret
    exact ⟨_, _, rfl, HA.out, Below.refl _ _⟩
  have hmk := fun W => run_make_row' (P := Tryf.prog) 22 9 (.string ⟨#[]⟩) 16 Tryf.underlying22 info_copy_str rfl .i64 .i64 n (by omega) (by omega) W
  have HL : Hid (zs.length = n) := by show zs.length = n; simpa using h.1
  rcases Nat.eq_zero_or_pos n with h0 | hn
  · subst h0
    have hmk0 := hmk
    simp only [Int.natCast_zero] at hmk0
    have HA : Hid (zs = []) := List.eq_nil_of_length_eq_zero HL.out
    clear h hmk
    go_enter Tryf.func6, Tryf.ntmps6
    go_wp2
    clear hmk0 hne
    refine wp_loop_rounds 1 ?_
    rw [rounds_succ]
    go_wp2
    go_ret
    exact ⟨_, _, rfl, ⟨by rw [HA.out]; rfl, Nat.le_refl _, by unfold maxLen; omega, fun h => by simp at h, fun h => absurd h (by omega)⟩, (Below.refl _ _).alloc (Nat.le_refl _) _⟩
  obtain ⟨h1, h2, h3, _, h5⟩ := h
  obtain ⟨b, off, e, hb, hc⟩ := h5 hn
  obtain rfl : a = ⟨b, off, none⟩ := by simpa using e
  have HC : Hid (∀ i u, (zs.map Value.string)[i]? = some u → w.cell? ⟨b, off + i, none⟩ = some u) := hc
  clear h1 h5 hc e
  go_enter Tryf.func6, Tryf.ntmps6
  go_wp2
  clear hmk hne
  go_loopw [4] (fun i wr => ∃ k : Nat, k ≤ n ∧ i = .int .i64 k ∧ wr = w.alloc (.cells (fillCells ((zs.take k).map Value.string) n (.string ⟨#[]⟩)) 9)) (fun i _ => n - (intOf i).toNat)
  case atStart => exact ⟨0, Nat.zero_le _, rfl, by rw [fill_made]; rfl⟩
  case round =>
    obtain ⟨k, hk, rfl, rfl⟩ := hrel
    by_cases hlt : k < n
    · obtain ⟨z, hz⟩ : ∃ z, zs[k]? = some z := ⟨zs[k]'(by rw [HL.out]; exact hlt), List.getElem?_eq_getElem _⟩
      have hcell : w.cell? ⟨b, off + k, none⟩ = some (Value.string z) := HC.out k _ (by simp [hz])
      have hlen : ((zs.take k).map Value.string).length = k := by simp [HL.out]; omega
      have hat := fill_at ((zs.take k).map Value.string) n (.string ⟨#[]⟩) (by omega)
      have hset := fill_set ((zs.take k).map Value.string) n (.string ⟨#[]⟩) (Value.string z) (by omega)
      rw [hlen] at hat hset
      have hsn : (zs.take (k + 1)).map Value.string = (zs.take k).map Value.string ++ [Value.string z] := by rw [List.take_add_one, hz]; simp
      rw [← hsn] at hset
      generalize fillCells ((zs.take k).map Value.string) n (.string ⟨#[]⟩) = C at *
      have HS : Hid (C.setIfInBounds k (Value.string z) = fillCells ((zs.take (k + 1)).map Value.string) n (.string ⟨#[]⟩)) := hset
      clear hz hlen hsn hset
      go_wp2
      go_roundw
      case rel => exact ⟨k + 1, by omega, by go_num, by rw [HS.out]⟩
      case measure => simp [intOf]; omega
    · obtain rfl : k = n := by omega
      have hf : (fillCells ((zs.take k).map Value.string) k (.string ⟨#[]⟩)).toList = zs.map Value.string := by
        rw [List.map_take]
        exact fill_list _ _ _ (by simpa using HL.out)
      have hsz : (fillCells ((zs.take k).map Value.string) k (.string ⟨#[]⟩)).size = k := by rw [← Array.length_toList, hf]; simpa using HL.out
      have HF : Hid (Arg (w.alloc (.cells (fillCells ((zs.take k).map Value.string) k (.string ⟨#[]⟩)) 9)) (some ⟨w.heap.size, 0, none⟩) k k (zs.map Value.string)) := by
        rw [← hf]
        exact arg_block (heap_alloc_new w _) hsz (by unfold maxLen; omega)
      clear hf hsz
      generalize fillCells ((zs.take k).map Value.string) k (.string ⟨#[]⟩) = C at *
      go_wp2
      go_ret
      exact ⟨_, _, rfl, HF.out, (Below.refl _ _).alloc (Nat.le_refl _) _⟩

end Go.Proofs.YtofbdaicahngfaaFmt
