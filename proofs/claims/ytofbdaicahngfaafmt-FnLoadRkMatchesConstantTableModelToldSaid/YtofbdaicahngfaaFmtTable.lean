/-
  The table of different strings that a list of loads leaves; what holds between two loads.
-/
import Derived.Test.YtofbdaicahngfaaFmtName
namespace Go.Proofs.YtofbdaicahngfaaFmt
open Go.RowKit
set_option linter.unusedVariables false

/-- The different strings of a list, in the order of their first appearance. -/
def table (l : List ByteArray) : List ByteArray := l.foldl ins []
theorem table_take {zs : List ByteArray} {k : Nat} {z : ByteArray} (h : zs[k]? = some z) : table (zs.take (k + 1)) = ins (table (zs.take k)) z := by
  rw [List.take_add_one, h]
  simp [table, List.foldl_append]
theorem foldl_len (l cs : List ByteArray) : (l.foldl ins cs).length ≤ cs.length + l.length := by
  induction l generalizing cs with
  | nil => simp
  | cons x l ih =>
    have h1 := ih (ins cs x)
    have h2 := (ins_len cs x).2
    simp only [List.foldl_cons, List.length_cons]
    omega
theorem table_len (l : List ByteArray) : (table l).length ≤ l.length := by
  have := foldl_len l []
  simpa [table] using this
theorem table_take_len (zs : List ByteArray) (k : Nat) : (table (zs.take k)).length ≤ k := by
  have h1 := table_len (zs.take k)
  have h2 := List.length_take_le k zs
  omega

theorem Arg.at_ {w0 w : World} {A : Option Addr} {n c k : Nat} {xs : List Value} (h : Arg w0 A n c xs) (hb : Below w0.heap.size w0 w) (hk : k < n) :
    ∃ b off u, A = some ⟨b, off, none⟩ ∧ xs[k]? = some u ∧ w.cell? ⟨b, off + k, none⟩ = some u ∧ b < w0.heap.size := by
  obtain ⟨b, off, e, hlt, hc⟩ := h.2.2.2.2 (by omega)
  have hl : k < xs.length := by rw [h.1]; exact hk
  exact ⟨b, off, xs[k], e, List.getElem?_eq_getElem hl, (hb.cell (by exact hlt)).trans (hc k _ (List.getElem?_eq_getElem hl)), hlt⟩
theorem map_get {α : Type} {f : α → Value} {zs : List α} {k : Nat} {u : Value} (h : (zs.map f)[k]? = some u) : ∃ z, zs[k]? = some z ∧ u = f z := by
  rw [List.getElem?_map] at h
  cases hz : zs[k]? with
  | none => rw [hz] at h; cases h
  | some z => rw [hz] at h; exact ⟨z, rfl, by simpa using h.symm⟩

theorem Loaded.trans {a b c : World} {B f rb : Nat} {cs cs' : List ByteArray} {S S' : List Int} {r r' : Int} (h : Loaded a b B f rb cs S r) (k : Loaded b c B f rb cs' S' r') : Loaded a c B f rb cs' S' r' :=
  ⟨k.ctx, k.reg, h.below.trans k.below, h.far.trans k.far, k.out⟩
theorem Loaded.drewN {a b : World} {B f rb : Nat} {cs : List ByteArray} {S : List Int} {r : Int} (h : Loaded a b B f rb cs S r) (q : Nat) : Loaded a (b.drewN q) B f rb cs S r :=
  ⟨h.ctx, h.reg, below_drewN h.below _, h.far.drewN _, h.out⟩

theorem load_any (w0 w : World) (B f rb : Nat) (s : ByteArray) (cs : List ByteArray) (S : List Int) (r : Int) (h : Loaded w0 w B f rb cs S r) (hmax : cs.length < 8192) (hSm : S.length < 1048576) (hB : B ≤ rb) (h0 : 0 ≤ r) (h1 : r ≤ 131072) :
    Calls Tryf.prog 9 #[.pointer (some ⟨f, 0, none⟩), .pointer (some ⟨rb, 0, none⟩), .string s] w fun e w' => ∃ v S' r', e = .returned (.int .i64 v) ∧ Loaded w0 w' B f rb (ins cs s) S' r' ∧ S'.length ≤ S.length + 1 ∧ r ≤ r' ∧ r' ≤ r + 1 := by
  obtain ⟨L, hc⟩ := h.ctx
  by_cases hq : idx cs s ≤ 255
  · refine (load_small w B f rb _ s cs S L r hc hmax hSm h.reg hB h.out h0 h1 rfl hq).mono ?_
    rintro e w' ⟨rfl, hl⟩
    exact ⟨_, _, _, rfl, h.trans hl, by omega, by omega, by omega⟩
  · refine (load_big w B f rb _ s cs S L r _ hc hmax hSm h.reg hB h.out h0 h1 rfl hq rfl).mono ?_
    rintro e w' ⟨rfl, hl⟩
    exact ⟨_, _, _, rfl, h.trans hl, by simp, by omega, by omega⟩
/-- Both loads of zzLoadAndName, from a state to a state. -/
theorem name_any (w0 w : World) (B f rb q n : Nat) (s : ByteArray) (cs cs' : List ByteArray) (S : List Int) (r : Int) (h : Loaded w0 w B f rb cs S r) (hn : S.length = n) (hmax : cs.length < 8192) (hSm : n < 1048576) (hB : B ≤ rb) (h0 : 0 ≤ r) (h1 : r ≤ 131072)
    (hq : idx cs s = q) (hcs : ins cs s = cs') :
    Calls Tryf.prog 16 #[.pointer (some ⟨f, 0, none⟩), .pointer (some ⟨rb, 0, none⟩), .string s] w fun e w' => e = .returned (.tuple #[.int .i64 q, .bool true]) ∧ ∃ S' r' n', Loaded w0 w' B f rb cs' S' r' ∧ S'.length = n' ∧
      ((q ≤ 255 ∧ n' = n ∧ r' = r) ∨ (¬ q ≤ 255 ∧ n' = n + 1 ∧ r' = r + 1)) := by
  subst hcs
  obtain ⟨L, hc⟩ := h.ctx
  by_cases hq2 : q ≤ 255
  · refine (name_small w B f rb q n s cs S L r hc hn hmax hSm h.reg hB h.out h0 h1 hq hq2).mono ?_
    rintro e w' ⟨rfl, hl⟩
    exact ⟨rfl, _, _, n, h.trans hl, hn, .inl ⟨hq2, rfl, rfl⟩⟩
  · refine (name_big w B f rb q n s cs S L r _ hc hn hmax hSm h.reg hB h.out h0 h1 hq hq2 rfl).mono ?_
    rintro e w' ⟨rfl, hl⟩
    exact ⟨rfl, _, _, n + 1, h.trans hl, by rw [List.length_append, hn]; rfl, .inr ⟨hq2, rfl, rfl⟩⟩

theorem count_at (w0 w : World) (B f rb m : Nat) (cs : List ByteArray) (S : List Int) (r : Int) (h : Loaded w0 w B f rb cs S r) (hm : cs.length = m) : Calls Tryf.prog 13 #[.pointer (some ⟨f, 0, none⟩)] w fun e w' => e = .returned (.int .i64 m) ∧ w = w' := by
  subst hm
  obtain ⟨L, hc⟩ := h.ctx
  exact count_c w B f cs S L hc
theorem constIs_at (w0 w : World) (B f rb i : Nat) (s : ByteArray) (cs : List ByteArray) (S : List Int) (r : Int) (h : Loaded w0 w B f rb cs S r) (hi : cs[i]? = some s) : Calls Tryf.prog 14 #[.pointer (some ⟨f, 0, none⟩), .int .i64 i, .string s] w fun e w' => e = .returned (.bool true) ∧ w = w' := by
  obtain ⟨L, hc⟩ := h.ctx
  exact constIs_c w B f i s cs S L hc hi
theorem code_at (w0 w : World) (B f rb n : Nat) (cs : List ByteArray) (S : List Int) (r : Int) (h : Loaded w0 w B f rb cs S r) (hn : S.length = n) : Calls Tryf.prog 8 #[.pointer (some ⟨f, 0, none⟩)] w fun e w' =>
    ∃ g c, e = .returned (.slice (some ⟨g, 0, none⟩) n c) ∧ (∀ i x, S[i]? = some x → w'.cell? ⟨g, i, none⟩ = some (.int .u32 x)) ∧ w'.cell? ⟨rb, 0, none⟩ = some (.int .i64 r) ∧ Loaded w0 w' B f rb cs S r ∧ ∃ q, w' = w.drewN q := by
  obtain ⟨L, hc⟩ := h.ctx
  refine (codeN_c w B f n cs S L hc hn).mono ?_
  rintro e w' ⟨g, c, q, rfl, hx, rfl⟩
  exact ⟨g, c, rfl, hx, (h.reg.cell 0).trans rfl, h.drewN q, q, rfl⟩

/-- The start: a new context and a new register. -/
theorem start_state {w w1 : World} {f : Nat} {reg : Int} (hf : FC w1 w.heap.size f [] [] []) (hb : Below w.heap.size w w1) :
    Loaded (w1.alloc (.cells #[.int .i64 reg] 3)) (w1.alloc (.cells #[.int .i64 reg] 3)) w.heap.size f w1.heap.size [] [] reg := by
  have h := hf.farC_below (r := w1.heap.size) (w' := w1.alloc (.cells #[.int .i64 reg] 3)) ((Below.refl _ _).alloc (Nat.le_refl _) _)
  refine ⟨⟨_, h.1⟩, Blk.new _ _ _, Below.refl _ _, FarC.refl _ _ _, fun hu => ?_⟩
  rcases h.2.grow _ hu with h' | h'
  · obtain ⟨_, cur, t, e, _⟩ := hf.uses h'
    have := (Array.getElem?_eq_some_iff.1 e).1
    omega
  · obtain ⟨_, cur, t, e, ht⟩ := h.1.uses hu
    have hn : ¬ Uses (w1.alloc (.cells #[.int .i64 reg] 3)) f w1.heap.size := fun hu' => by
      have := (hf.same (w' := w1.alloc (.cells #[.int .i64 reg] 3)) (fun b hb => ((Below.refl w1.heap.size w1).alloc (Nat.le_refl _) _).block b (by obtain ⟨_, cur, t, e, _⟩ := hf.uses hb; exact (Array.getElem?_eq_some_iff.1 e).1))).2 _ hu'
      obtain ⟨_, cur, t, e, _⟩ := hf.uses this
      have := (Array.getElem?_eq_some_iff.1 e).1
      omega
    exact hn hu
end Go.Proofs.YtofbdaicahngfaaFmt
