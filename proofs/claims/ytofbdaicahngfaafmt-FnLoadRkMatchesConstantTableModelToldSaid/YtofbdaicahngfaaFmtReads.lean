/-
  The walks through the readers: the fields of an instruction, the code, the number of constants, a constant.
-/
import Derived.Test.YtofbdaicahngfaaFmtCtx
namespace Go.Proofs.YtofbdaicahngfaaFmt
open Go.RowKit
set_option linter.unusedVariables false

theorem opc_c (x : Int) (h0 : 0 ≤ x) (h1 : x ≤ 4294967295) (w : World) : Calls Tryf.prog 10 #[.int .u32 x] w fun e w' => e = .returned (.int .i64 (x / 67108864)) ∧ w = w' := by
  go_enter Tryf.func10, Tryf.ntmps10
  go_wp2
  go_ret
  exact ⟨rfl, rfl⟩
theorem bx_c (x : Int) (h0 : 0 ≤ x) (h1 : x ≤ 4294967295) (w : World) : Calls Tryf.prog 11 #[.int .u32 x] w fun e w' => e = .returned (.int .i64 (x % 262144)) ∧ w = w' := by
  have e1 := u32_and_262143 x h0 h1
  go_enter Tryf.func11, Tryf.ntmps11
  go_wp2
  go_ret
  exact ⟨rfl, rfl⟩
theorem a_c (x : Int) (h0 : 0 ≤ x) (h1 : x ≤ 4294967295) (w : World) : Calls Tryf.prog 12 #[.int .u32 x] w fun e w' => e = .returned (.int .i64 (x / 262144 % 256)) ∧ w = w' := by
  have e1 := i64_and_255 (x / 262144)
  go_enter Tryf.func12, Tryf.ntmps12
  go_wp2
  go_ret
  exact ⟨rfl, rfl⟩
theorem or_256 (k : Int) (h0 : 0 ≤ k) (h1 : k ≤ 255) : bits .or .i64 k 256 = k + 256 := by
  obtain ⟨n, rfl⟩ := Int.eq_ofNat_of_zero_le h0
  have : ∀ k : Fin 256, bits .or .i64 (k.val : Int) 256 = (k.val : Int) + 256 := by decide +kernel
  exact this ⟨n, by omega⟩
theorem rkAsk_c (k : Int) (h0 : 0 ≤ k) (h1 : k ≤ 255) (w : World) : Calls Tryf.prog 24 #[.int .i64 k] w fun e w' => e = .returned (.int .i64 (k + 256)) ∧ w = w' := by
  have e1 := or_256 k h0 h1
  go_enter Tryf.func24, Tryf.ntmps24
  go_wp2
  go_ret
  exact ⟨rfl, rfl⟩

theorem cap_of_own {w : World} {B g n cap : Nat} {e : TypeId} {xs : List Value} (h : w.ownsRow B e 1 (.slice (some ⟨g, 0, none⟩) n cap) n xs) : n ≤ cap ∧ cap ≤ 9223372036854775807 := by
  rcases h.2 with ⟨h', _⟩ | ⟨g', cap', cur, h', hb, hg, hnc, hcm, hcs, htake⟩
  · simp at h'
  · simp only [Value.slice.injEq, Option.some.injEq, Addr.mk.injEq, and_true, true_and] at h'
    obtain ⟨rfl, rfl⟩ := h'
    unfold maxLen at hcm
    exact ⟨hnc, by omega⟩
theorem prefix_get {S cs : List Int} {i : Nat} {x : Int} (h : S <+: cs) (hx : S[i]? = some x) : cs[i]? = some x := by
  obtain ⟨t, rfl⟩ := h
  rw [List.getElem?_append_left (List.getElem?_eq_some_iff.1 hx).1]
  exact hx

def CodePost (w : World) (S : List Int) (e : Ending) (w' : World) : Prop :=
  ∃ g c, e = .returned (.slice (some ⟨g, 0, none⟩) S.length c) ∧ (∀ i x, S[i]? = some x → w.cell? ⟨g, i, none⟩ = some (.int .u32 x)) ∧ ∃ q, w' = w.drewN q

theorem code_c (w : World) (B f : Nat) (cs : List ByteArray) (S L : List Int) (h : FC w B f cs S L) : Calls Tryf.prog 8 #[.pointer (some ⟨f, 0, none⟩)] w (CodePost w S) := by
  obtain ⟨pb, cb, C, hB, hf, c0, c1, hP, g1, n1, g2, n2, ds, ls, hB', hSL, hcl, hS, hL, hm, hblk, ho1, ho2⟩ := h
  have hle := hS.length_le
  have p1 : w.cell? ⟨f, 1, none⟩ = some (.pointer (some ⟨cb, 0, none⟩)) := by rw [hf.cell]; exact c1
  have p0 : w.cell? ⟨cb, 0, none⟩ = some (.slice (some ⟨g1, 0, none⟩) ds.length n1) := by rw [hblk.cell]; rfl
  have p2 : w.cell? ⟨cb, 2, none⟩ = some (.int .i64 S.length) := by rw [hblk.cell]; rfl
  obtain ⟨k1, k2⟩ := cap_of_own ho1
  have HA : Hid (∀ i x, S[i]? = some x → w.cell? ⟨g1, i, none⟩ = some (.int .u32 x)) := fun i x hx => by
    rw [ho1.cellAt i (by have := (List.getElem?_eq_some_iff.1 hx).1; omega), List.getElem?_map, prefix_get hS hx]; rfl
  clear hSL hcl hS hL hblk ho1 ho2 hP hf c0 c1
  generalize hkk : S.length = k at *
  have HK := Lib.hid hkk
  clear hkk
  generalize ds.length = n at *
  have i0 : (0 : Int) ≤ (k : Int) := by omega
  have i1 : (k : Int) ≤ (n1 : Int) := by omega
  go_enter Tryf.func8, Tryf.ntmps8
  go_wp2
  go_quiet (fail)
  go_wp2
  go_ret
  obtain rfl := HK.out
  exact ⟨g1, n1, rfl, HA.out, _, rfl⟩

theorem count_c (w : World) (B f : Nat) (cs : List ByteArray) (S L : List Int) (h : FC w B f cs S L) : Calls Tryf.prog 13 #[.pointer (some ⟨f, 0, none⟩)] w fun e w' => e = .returned (.int .i64 cs.length) ∧ w = w' := by
  obtain ⟨pb, cb, C, hB, hf, c0, c1, ⟨g, c, C', hB', hm, hblk, c8, ho⟩, hS⟩ := h
  have p0 : w.cell? ⟨f, 0, none⟩ = some (.pointer (some ⟨pb, 0, none⟩)) := by rw [hf.cell]; exact c0
  have p8 : w.cell? ⟨pb, 8, none⟩ = some (.slice (some ⟨g, 0, none⟩) cs.length c) := by rw [hblk.cell]; exact c8
  clear hf c0 c1 hblk c8 ho hS
  generalize cs.length = n at *
  go_enter Tryf.func13, Tryf.ntmps13
  go_wp2
  go_ret
  exact ⟨rfl, rfl⟩

theorem assert_str : ∀ (s : ByteArray) (w : World), (Instr.typeAssert (.iface 61 (.string s)) 77 61 true).run Tryf.prog w = .ok (.tuple #[.string s, .bool true]) w := by intro s w; kernel_rfl
theorem const_c (w : World) (B f i : Nat) (s : ByteArray) (cs : List ByteArray) (S L : List Int) (h : FC w B f cs S L) (hi : cs[i]? = some s) : Calls Tryf.prog 19 #[.pointer (some ⟨f, 0, none⟩), .int .i64 i] w fun e w' => e = .returned (.tuple #[.string s, .bool true]) ∧ w = w' := by
  obtain ⟨pb, cb, C, hB, hf, c0, c1, ⟨g, c, C', hB', hm, hblk, c8, ho⟩, hS⟩ := h
  have hlt := (List.getElem?_eq_some_iff.1 hi).1
  have p0 : w.cell? ⟨f, 0, none⟩ = some (.pointer (some ⟨pb, 0, none⟩)) := by rw [hf.cell]; exact c0
  have p8 : w.cell? ⟨pb, 8, none⟩ = some (.slice (some ⟨g, 0, none⟩) cs.length c) := by rw [hblk.cell]; exact c8
  have q : w.cell? ⟨g, i, none⟩ = some (.iface 61 (.string s)) := by rw [ho.cellAt i (by omega), List.getElem?_map, hi]; rfl
  clear hf c0 c1 hblk c8 ho hS hi
  generalize cs.length = n at *
  have i0 : (0 : Int) ≤ (i : Int) := by omega
  have i1 : ¬ (i : Int) < 0 := by omega
  have i2 : (i : Int) < (n : Int) := by omega
  have i3 : ¬ (n : Int) ≤ (i : Int) := by omega
  have e1 := assert_str s
  go_enter Tryf.func19, Tryf.ntmps19
  go_wp2
  go_ret2
  exact ⟨rfl, rfl⟩
theorem str_refl (s : ByteArray) : (s.data.toList == s.data.toList) = true := by simp
theorem constIs_c (w : World) (B f i : Nat) (s : ByteArray) (cs : List ByteArray) (S L : List Int) (h : FC w B f cs S L) (hi : cs[i]? = some s) : Calls Tryf.prog 14 #[.pointer (some ⟨f, 0, none⟩), .int .i64 i, .string s] w fun e w' => e = .returned (.bool true) ∧ w = w' := by
  have H := Lib.hid h
  have HI := Lib.hid hi
  clear h hi
  go_enter Tryf.func14, Tryf.ntmps14
  go_wp2_with fail
  refine (const_c w B f i s cs S L H.out HI.out).mono ?_
  rintro e w' ⟨rfl, rfl⟩
  go_wp2
  go_ret
  exact ⟨rfl, rfl⟩
end Go.Proofs.YtofbdaicahngfaaFmt
