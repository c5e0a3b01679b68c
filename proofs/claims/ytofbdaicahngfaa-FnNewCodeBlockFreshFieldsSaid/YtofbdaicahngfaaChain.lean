/-
  The walks through the maker of a code block and through the count of local variables along its chain.
-/
import Derived.Test.YtofbdaicahngfaaPool
namespace Go.Proofs.Ytofbdaicahngfaa
open Go.RowKit
set_option linter.unusedVariables false

/-- The chain of blocks from a on: at each block a pool of so many names, and its parent. -/
def Chain (w : World) : Option Addr → List Nat → Prop
  | none, [] => True
  | some a, m :: ms => ∃ d p v c par, a = ⟨d, 0, none⟩ ∧ w.cell? ⟨d, 0, none⟩ = some (.pointer (some ⟨p, 0, none⟩)) ∧ w.cell? ⟨d, 2, none⟩ = some (.pointer par) ∧ w.cell? ⟨p, 0, none⟩ = some (.slice v m c) ∧ Chain w par ms
  | _, _ => False

theorem Chain.below {w w' : World} : ∀ {ms : List Nat} {a : Option Addr}, Chain w a ms → Below w.heap.size w w' → Chain w' a ms
  | [], none, _, _ => trivial
  | [], some _, h, _ => h.elim
  | _ :: _, none, h, _ => h.elim
  | m :: ms, some a, h, hb => by
    obtain ⟨d, p, v, c, par, rfl, h1, h2, h3, h4⟩ := h
    refine ⟨d, p, v, c, par, rfl, (hb.cell ?_).trans h1, (hb.cell ?_).trans h2, (hb.cell ?_).trans h3, h4.below hb⟩
    · exact World.block_lt_of_cell? w _ h1
    · exact World.block_lt_of_cell? w _ h2
    · exact World.block_lt_of_cell? w _ h3
theorem Chain.drewN {w : World} {q : Nat} {ms : List Nat} {a : Option Addr} (h : Chain w a ms) : Chain (w.drewN q) a ms := h.below (below_drewN (Below.refl _ _) _)

def chainLen (w : World) : Nat → Value → Nat
  | 0, _ => 0
  | n + 1, .pointer (some a) => match w.cell? ⟨a.block, 2, none⟩ with
    | some u => chainLen w n u + 1
    | none => 1
  | _ + 1, _ => 0
theorem chainLen_eq {w : World} : ∀ {n : Nat} {ms : List Nat} {a : Option Addr}, Chain w a ms → ms.length ≤ n → chainLen w n (.pointer a) = ms.length
  | 0, [], _, _, _ => rfl
  | n + 1, [], none, _, _ => rfl
  | n + 1, [], some _, h, _ => h.elim
  | 0, _ :: _, _, _, hl => by simp at hl
  | n + 1, _ :: _, none, h, _ => h.elim
  | n + 1, m :: ms, some a, h, hl => by
    obtain ⟨d, p, v, c, par, rfl, h1, h2, h3, h4⟩ := h
    simp only [chainLen, h2]
    rw [chainLen_eq h4 (by simpa using hl)]
    rfl

theorem names_c (w : World) (p m c : Nat) (v : Option Addr) (h : w.cell? ⟨p, 0, none⟩ = some (.slice v m c)) : Calls Try.prog 30 #[.pointer (some ⟨p, 0, none⟩)] w fun e w' => e = .returned (.slice v m c) ∧ w = w' := by
  go_enter Try.func30, Try.ntmps30
  go_wp2
  go_ret
  exact ⟨rfl, rfl⟩

theorem count_c (w : World) (a : Option Addr) (ms : List Nat) (h : Chain w a ms) (hs : ms.sum ≤ 1048576) : Calls Try.prog 21 #[.pointer a] w fun e w' => e = .returned (.int .i64 ms.sum) ∧ w = w' := by
  have H := Lib.hid h
  clear h
  go_enter Try.func21, Try.ntmps21
  go_wp2_with (go_at_call 29; go_in)
  go_loopw [3, 4] (fun cnt blk wr => ∃ (k : Nat) (b : Option Addr) (rs : List Nat), cnt = .int .i64 k ∧ blk = .pointer b ∧ Chain w b rs ∧ k + rs.sum = ms.sum ∧ rs.length ≤ ms.length ∧ wr = w) (fun _ blk _ => chainLen w ms.length blk)
  case atStart => exact ⟨0, a, ms, rfl, rfl, H.out, by omega, Nat.le_refl _, rfl⟩
  case round =>
    obtain ⟨k, b, rs, rfl, rfl, hC, hsum, hlen, rfl⟩ := hrel
    have HC := Lib.hid hC
    rcases rs with _ | ⟨m, rs⟩
    · rcases b with _ | b
      · obtain rfl : k = ms.sum := by simpa using hsum
        clear hC hsum
        go_wp2_with fail
        go_ret
        exact ⟨rfl, rfl⟩
      · exact hC.elim
    · rcases b with _ | b
      · exact hC.elim
      · have hM := Lib.hid (chainLen_eq hC hlen)
        obtain ⟨d, p, v, c, par, rfl, h1, h2, h3, h4⟩ := hC
        have hM2 := Lib.hid (chainLen_eq (n := ms.length) h4 (by simp at hlen; omega))
        have H4 := Lib.hid h4
        have hsm : k + m ≤ 1048576 := by simp at hsum; omega
        have hsum' : Hid (k + m + rs.sum = ms.sum) := by show _ = _; simp at hsum; omega
        clear h4 hsum
        go_wp2_with fail
        refine (names_c _ p m c v h3).mono ?_; rintro e w' ⟨rfl, rfl⟩
        go_wp2_with fail
        go_roundw
        case rel => exact ⟨k + m, par, rs, by go_num, rfl, H4.out, hsum'.out, by simp at hlen; omega, by first | trivial | rfl⟩
        case measure => rw [hM2.out, hM.out]; simp
end Go.Proofs.Ytofbdaicahngfaa
