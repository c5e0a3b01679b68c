/-
  Plain words on arguments that are slices, and on blocks that are known whole; it speaks of no program.
-/
import Derived.WalkKit
import Derived.ProofKit
import Derived.OpenShut
import Derived.ShutString
import Derived.ChangeOld
import Derived.Below
import Derived.Deep.Slices
import Derived.SliceStrings
import Derived.Laws.Cover2
import Derived.Deep.Draws
import Derived.Lib.Hide
import Derived.Deep.QuietTactic
import Derived.BigQuiet
namespace Go.Proofs.YtofbdaicahngfaaFmt
open Go.ChangeShapes Go.WideShapes Go.ChangeAt Go.RowKit Go.Deep

/-- The slice value (A, n, c) that came in reads as the cells xs, one cell an element. -/
def Arg (w : World) (A : Option Addr) (n c : Nat) (xs : List Value) : Prop :=
  xs.length = n ∧ n ≤ c ∧ c ≤ maxLen ∧ (A = none → n = 0 ∧ c = 0) ∧
  (0 < n → ∃ b off, A = some ⟨b, off, none⟩ ∧ b < w.heap.size ∧ ∀ i u, xs[i]? = some u → w.cell? ⟨b, off + i, none⟩ = some u)

theorem Arg.below {w w' : World} {A : Option Addr} {n c : Nat} {xs : List Value} (h : Arg w A n c xs) (hb : Below w.heap.size w w') : Arg w' A n c xs := by
  obtain ⟨h1, h2, h3, h4, h5⟩ := h
  refine ⟨h1, h2, h3, h4, fun hn => ?_⟩
  obtain ⟨b, off, e, hlt, hc⟩ := h5 hn
  exact ⟨b, off, e, Nat.lt_of_lt_of_le hlt hb.size, fun i u hu => (hb.cell (by exact hlt)).trans (hc i u hu)⟩

section
variable {H : Type} {enc : TypeId × Value → H} {P : Program} {w : World} {base : Nat} {spare : Nat → Bool} {held : Bool}

theorem open_arg {t e : TypeId} {A : Option Addr} {n c : Nat} {d : DataW H} {p : List MemPlace} (ht : P.underlying t = some (.slice e)) (hc : P.cellsOf e = 1)
    (h : DataW.Trod enc P w base spare held t (.slice A n c) d p) :
    ∃ xs : List Value, Arg w A n c xs ∧ ∀ u ∈ xs, ∃ m y, DataW.trod enc P w base spare held m e [u] = some y := by
  obtain ⟨fuel, hf⟩ := h
  rcases open_slice1 ht hc hf with ⟨h0, _⟩ | ⟨a, len, cap, m, k, V, D, Pl, h0, _, hl, hm, hmm, _, hx⟩
  · simp [Value.cells] at h0
    obtain ⟨rfl, rfl, rfl⟩ := h0
    exact ⟨[], ⟨rfl, Nat.le_refl _, by simp, fun _ => ⟨rfl, rfl⟩, fun h => absurd h (by omega)⟩, fun u hu => by simp at hu⟩
  · simp [Value.cells] at h0
    obtain ⟨rfl, rfl, rfl⟩ := h0
    have hle : n ≤ m := by rw [hmm]; split <;> omega
    refine ⟨(List.range n).map V, ⟨by simp, hl, hm, fun h => by simp at h, fun hn => ?_⟩, fun u hu => ?_⟩
    · obtain ⟨b, off, spot⟩ := a
      have h00 := (hx 0 (by omega)).1
      have hs : spot = none := by simpa [Addr.add] using World.cell?_spot h00
      subst hs
      refine ⟨b, off, rfl, World.block_lt_of_cell? w _ (by simpa [Addr.add] using h00), fun i u hu => ?_⟩
      have hi : i < n := by
        have := (List.getElem?_eq_some_iff.1 hu).1
        simpa using this
      have hv : u = V i := by simpa [hi] using hu.symm
      subst hv
      have := (hx i (by omega)).1
      unfold Addr.add at this
      split at this
      · rename_i h; subst h; simpa using this
      · exact this
    · obtain ⟨i, hi, rfl⟩ := List.mem_map.1 hu
      have hi' : i < n := by simpa using hi
      exact ⟨k, _, (hx i (by omega)).2⟩

theorem ints_of {e : TypeId} {k : IntKind} (he : P.underlying e = some (.int k)) : ∀ xs : List Value, (∀ u ∈ xs, ∃ m y, DataW.trod enc P w base spare held m e [u] = some y) →
    ∃ zs : List Int, xs = zs.map (Value.int k) ∧ ∀ z ∈ zs, (Lit.int k z).wf = true := by
  intro xs
  induction xs with
  | nil => intro _; exact ⟨[], rfl, fun z hz => by simp at hz⟩
  | cons x xs ih =>
    intro h
    obtain ⟨zs, rfl, hz⟩ := ih (fun u hu => h u (List.mem_cons_of_mem _ hu))
    obtain ⟨m, y, hy⟩ := h x List.mem_cons_self
    obtain ⟨z, h1, _, hw⟩ := DataW.trod_int he hy
    simp only [List.cons.injEq, and_true] at h1
    subst h1
    exact ⟨z :: zs, rfl, fun a ha => by rcases List.mem_cons.1 ha with rfl | ha; exact hw; exact hz a ha⟩

theorem bools_of {e : TypeId} (he : P.underlying e = some .bool) : ∀ xs : List Value, (∀ u ∈ xs, ∃ m y, DataW.trod enc P w base spare held m e [u] = some y) →
    ∃ zs : List Bool, xs = zs.map Value.bool := by
  intro xs
  induction xs with
  | nil => intro _; exact ⟨[], rfl⟩
  | cons x xs ih =>
    intro h
    obtain ⟨zs, rfl⟩ := ih (fun u hu => h u (List.mem_cons_of_mem _ hu))
    obtain ⟨m, y, hy⟩ := h x List.mem_cons_self
    obtain ⟨z, h1, _⟩ := DataW.trod_bool he hy
    simp only [List.cons.injEq, and_true] at h1
    subst h1
    exact ⟨z :: zs, rfl⟩

theorem strings_of {e : TypeId} (he : P.underlying e = some .string) : ∀ xs : List Value, (∀ u ∈ xs, ∃ m y, DataW.trod enc P w base spare held m e [u] = some y) →
    ∃ zs : List ByteArray, xs = zs.map Value.string ∧ ∀ z ∈ zs, z.size ≤ maxLen := by
  intro xs
  induction xs with
  | nil => intro _; exact ⟨[], rfl, fun z hz => by simp at hz⟩
  | cons x xs ih =>
    intro h
    obtain ⟨zs, rfl, hz⟩ := ih (fun u hu => h u (List.mem_cons_of_mem _ hu))
    obtain ⟨m, y, hy⟩ := h x List.mem_cons_self
    obtain ⟨z, h1, _, hw⟩ := DataW.trod_string he hy
    simp only [List.cons.injEq, and_true] at h1
    subst h1
    exact ⟨z :: zs, rfl, fun a ha => by rcases List.mem_cons.1 ha with rfl | ha; exact hw; exact hz a ha⟩

theorem floats_of {e : TypeId} {k : FloatKind} (he : P.underlying e = some (.float k)) : ∀ xs : List Value, (∀ u ∈ xs, ∃ m y, DataW.trod enc P w base spare held m e [u] = some y) →
    ∃ zs : List Nat, xs = zs.map (Value.float k) ∧ ∀ z ∈ zs, (Lit.float k z).wf = true := by
  intro xs
  induction xs with
  | nil => intro _; exact ⟨[], rfl, fun z hz => by simp at hz⟩
  | cons x xs ih =>
    intro h
    obtain ⟨zs, rfl, hz⟩ := ih (fun u hu => h u (List.mem_cons_of_mem _ hu))
    obtain ⟨m, y, hy⟩ := h x List.mem_cons_self
    obtain ⟨z, h1, hw⟩ : ∃ z, [x] = [Value.float k z] ∧ (Lit.float k z).wf = true := by
      cases m with
      | zero => simp [DataW.trod] at hy
      | succ n =>
        unfold DataW.trod at hy
        rw [he] at hy
        split at hy <;> simp_all
    simp only [List.cons.injEq, and_true] at h1
    subst h1
    exact ⟨z :: zs, rfl, fun a ha => by rcases List.mem_cons.1 ha with rfl | ha; exact hw; exact hz a ha⟩
end

/-- Block g is just the cells cs of element type t, none of them frozen. -/
def Blk (w : World) (g : Nat) (t : TypeId) (cs : Array Value) : Prop := w.heap[g]? = some (.cells cs t (0, 0))

section
variable {w w' : World} {g : Nat} {t : TypeId} {cs : Array Value}
theorem Blk.lt (h : Blk w g t cs) : g < w.heap.size := by
  rcases Nat.lt_or_ge g w.heap.size with hlt | hge
  · exact hlt
  · unfold Blk at h; rw [Array.getElem?_eq_none hge] at h; cases h
theorem Blk.cell (h : Blk w g t cs) (i : Nat) : w.cell? ⟨g, i, none⟩ = cs[i]? := cell_of_row w g i cs t (0, 0) h
theorem Blk.frozen (h : Blk w g t cs) (i : Nat) : w.frozen? ⟨g, i, none⟩ = false := by
  unfold Blk at h
  simp [World.frozen?, h]
theorem Blk.new (w : World) (t : TypeId) (cs : Array Value) : Blk (w.alloc (.cells cs t)) w.heap.size t cs := heap_alloc_new w _
theorem Blk.new_at (w : World) {g : Nat} (t : TypeId) (cs : Array Value) (hg : g = w.heap.size) : Blk (w.alloc (.cells cs t)) g t cs := by subst hg; exact Blk.new w t cs
theorem own_made (w : World) {g base : Nat} (e : TypeId) (z : Value) (cap : Nat) (hg : g = w.heap.size) (hb : base ≤ g) (hm : cap ≤ maxLen) : (w.alloc (.cells (madeCells #[z] cap) e)).ownsRow base e 1 (.slice (some ⟨g, 0, none⟩) 0 cap) 0 [] := by
  subst hg; exact World.ownsRow_made w _ cap hb hm (by rw [size_madeCells, Nat.mul_one])
theorem Blk.drew (h : Blk w g t cs) : Blk w.drew g t cs := h
theorem Blk.alloc (h : Blk w g t cs) (o : Obj) : Blk (w.alloc o) g t cs := (Below.heap_alloc w o g h.lt).trans h
theorem Blk.set_ (h : Blk w g t cs) (i : Nat) (u : Value) : Blk (w.setCell ⟨g, i, none⟩ u) g t (cs.setIfInBounds i u) := by
  unfold Blk at h ⊢
  simp [World.setCell, Array.getElem?_modify, h]
theorem Blk.far (h : Blk w g t cs) {p : Addr} (hp : g ≠ p.block) (u : Value) : Blk (w.setCell p u) g t cs := (Below.heap_setCell w p u g hp).trans h
theorem Blk.below {B : Nat} (h : Blk w g t cs) (hb : Below B w w') (hg : g < B) : Blk w' g t cs := (hb.block g hg).trans h
theorem Blk.grown {row : Option Nat} (h : Blk w g t cs) (hb : w.grownBy w' row) (hg : some g ≠ row) : Blk w' g t cs := (hb.block g h.lt hg).trans h
end

theorem Blk.ne_ {w : World} {g g' : Nat} {t t' : TypeId} {cs cs' : Array Value} (h : Blk w g t cs) (h' : Blk w g' t' cs') (hne : t ≠ t') : g ≠ g' := by
  rintro rfl
  unfold Blk at h h'
  rw [h] at h'
  injection h' with h'
  injection h' with _ ht
  exact hne ht
theorem own_blk_ne {w : World} {base g : Nat} {e t : TypeId} {size n : Nat} {v : Value} {xs : List Value} {cs : Array Value} (h : w.ownsRow base e size v n xs) (hg : Blk w g t cs) (hne : e ≠ t) : v.ownBlock ≠ some g := by
  rcases h.2 with ⟨rfl, _⟩ | ⟨g', cap, cur, rfl, _, hh, _⟩
  · simp [Value.ownBlock]
  · intro he
    have : g' = g := by simpa [Value.ownBlock] using he
    subst this
    exact Blk.ne_ (t := e) hh hg hne rfl
theorem own_set_blk {w : World} {base g : Nat} {e t : TypeId} {size n : Nat} {v : Value} {xs : List Value} {cs : Array Value} (h : w.ownsRow base e size v n xs) (hg : Blk w g t cs) (hne : e ≠ t) (i : Nat) (u : Value) :
    (w.setCell ⟨g, i, none⟩ u).ownsRow base e size v n xs := ownsRow_setCell_other h (a := ⟨g, i, none⟩) (own_blk_ne h hg hne) u
/-- Two owned rows of different element types lie in different blocks. -/
theorem own_own_ne {w : World} {base base' : Nat} {e e' : TypeId} {size size' n n' : Nat} {v v' : Value} {xs xs' : List Value} (h : w.ownsRow base e size v n xs) (h' : w.ownsRow base' e' size' v' n' xs') (hne : e ≠ e') :
    v.ownBlock = none ∨ v.ownBlock ≠ v'.ownBlock := by
  rcases h'.2 with ⟨rfl, _⟩ | ⟨g', cap, cur, rfl, _, hh, _⟩
  · cases hv : v.ownBlock <;> simp [Value.ownBlock]
  · exact .inr (own_blk_ne (t := e') h hh hne)

theorem below_drewN {B : Nat} {a w : World} (h : Below B a w) (n : Nat) : Below B a (w.drewN n) := ⟨h.os, h.tape, h.output, h.size, h.block⟩
theorem ret_int {k : IntKind} {a b : Int} (h : a = b) : Ending.returned (.int k a) = .returned (.int k b) := by rw [h]

theorem quiet_left {P : Program} {f : FuncId} {args : Array Value} {w : World} {n : Nat} {v : Value}
    (h : Calls P f args (w.drewN n) fun e w' => e = .returned v ∧ w.drewN n = w') : Calls P f args (w.drewN n) fun e w'' => e = .returned v ∧ ∃ m, w'' = w.drewN m :=
  h.mono fun _ _ ⟨he, hm⟩ => ⟨he, n, hm.symm⟩

/-! ### A new row that is filled from the left -/
def fillCells (xs : List Value) (n : Nat) (z : Value) : Array Value := (xs ++ List.replicate (n - xs.length) z).toArray
theorem fill_made (n : Nat) (z : Value) : madeCells #[z] n = fillCells [] n z := by
  apply Array.ext_getElem?
  intro i
  by_cases hi : i < n
  · simp [madeCells, fillCells, hi, Nat.mod_one]
  · simp [madeCells, fillCells, hi]
theorem fill_set (xs : List Value) (n : Nat) (z v : Value) (h : xs.length < n) : (fillCells xs n z).setIfInBounds xs.length v = fillCells (xs ++ [v]) n z := by
  unfold fillCells
  obtain ⟨m, hm⟩ : ∃ m, n - xs.length = m + 1 := ⟨n - xs.length - 1, by omega⟩
  have e : n - (xs ++ [v]).length = m := by simp; omega
  rw [hm, e, List.replicate_succ]
  simp
theorem fill_at (xs : List Value) (n : Nat) (z : Value) (h : xs.length < n) : (fillCells xs n z)[xs.length]? = some z := by
  unfold fillCells
  obtain ⟨m, hm⟩ : ∃ m, n - xs.length = m + 1 := ⟨n - xs.length - 1, by omega⟩
  rw [hm, List.replicate_succ]
  simp
theorem fill_full (xs : List Value) (z : Value) : fillCells xs xs.length z = xs.toArray := by simp [fillCells]

/-- A row of integers of one kind, behind a name. -/
def rowI (k : IntKind) (zs : List Int) : Array Value := (zs.map (Value.int k)).toArray
theorem rowI_size (k : IntKind) (zs : List Int) : (rowI k zs).size = zs.length := by simp [rowI]
theorem rowI_get {k : IntKind} {zs : List Int} {i : Nat} {z : Int} (h : zs[i]? = some z) : (rowI k zs)[i]? = some (.int k z) := by simp [rowI, h]
theorem rowI_set (k : IntKind) (zs : List Int) (i : Nat) (v : Int) : (rowI k zs).setIfInBounds i (.int k v) = rowI k (zs.set i v) := by simp [rowI]
theorem rowI_list (k : IntKind) (zs : List Int) : (rowI k zs).toList = zs.map (Value.int k) := by simp [rowI]
theorem rowI_fill (k : IntKind) (zs : List Int) (n : Nat) (h : zs.length = n) (z : Value) : fillCells ((zs.take n).map (Value.int k)) n z = rowI k zs := by
  subst h
  have := fill_full (zs.map (Value.int k)) z
  rw [List.length_map] at this
  rw [List.take_of_length_le (Nat.le_refl _), this, rowI]
theorem rowI_getD (k : IntKind) (zs : List Int) (i : Nat) (h : i < zs.length) : (rowI k zs)[i]? = some (.int k (zs.getD i 0)) := by
  rw [rowI_get (List.getElem?_eq_getElem h), List.getD_eq_getElem?_getD, List.getElem?_eq_getElem h]; rfl
theorem rowI_setD (k : IntKind) (zs : List Int) (p i : Nat) (v : Int) (h : i < zs.length) : ((rowI k zs).setIfInBounds p (.int k v))[i]? = some (.int k (if i = p then v else zs.getD i 0)) := by
  rw [rowI_set, rowI_getD k _ i (by simpa using h)]
  congr 2
  rw [List.getD_eq_getElem?_getD, List.getElem?_set]
  by_cases e : p = i
  · subst e
    simp [h]
  · have e' : ¬ i = p := fun h => e h.symm
    simp [e, e', List.getD_eq_getElem?_getD]
theorem row_val {C : Array Value} {p i : Nat} {k : IntKind} {a b : Int} {r : Option Value} (h : a = b) (hr : (C.setIfInBounds p (.int k b))[i]? = r) : (C.setIfInBounds p (.int k a))[i]? = r := by rw [h]; exact hr
/-- A slice of a block of the call's own, as what came in is read. -/
theorem arg_block {w : World} {g : Nat} {t : TypeId} {fr : Nat × Nat} {cs : Array Value} {n : Nat} (hb : w.heap[g]? = some (.cells cs t fr)) (hn : cs.size = n) (hm : n ≤ maxLen) : Arg w (some ⟨g, 0, none⟩) n n cs.toList := by
  refine ⟨by simpa using hn, Nat.le_refl _, hm, fun h => by simp at h, fun _ => ⟨g, 0, rfl, ?_, fun i u hu => ?_⟩⟩
  · rcases Nat.lt_or_ge g w.heap.size with h | h
    · exact h
    · rw [Array.getElem?_eq_none h] at hb; cases hb
  · rw [Nat.zero_add]
    have := cell_of_row w g i cs t fr hb
    rw [this]
    simpa using hu

theorem fill_list (xs : List Value) (n : Nat) (z : Value) (h : xs.length = n) : (fillCells (xs.take n) n z).toList = xs := by
  subst h
  simp [fillCells]
/-- What a copy leaves: a slice that reads as the same cells; nothing that was there has turned. -/
def CopyPost (w : World) (n : Nat) (xs : List Value) (e : Ending) (w' : World) : Prop := ∃ A c, e = .returned (.slice A n c) ∧ Arg w' A n c xs ∧ Below w.heap.size w w'

end Go.Proofs.YtofbdaicahngfaaFmt
