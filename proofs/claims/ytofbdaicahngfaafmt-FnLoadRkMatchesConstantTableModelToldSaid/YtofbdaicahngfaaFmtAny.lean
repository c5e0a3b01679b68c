/-
  A rule for a region that draws its order and whose operations only read or make memory: a fact for each value, kept by whatever is made later, holds in whatever order the operations come up.
-/
import Derived.Test.YtofbdaicahngfaaFmtNew
namespace Go.Proofs.YtofbdaicahngfaaFmt
open Go.RowKit
set_option linter.unusedVariables false

section
variable {P : Program} {ops : Array Oper} {Q : Exit → Act → World → Prop} {md : Region.Mode}

theorem ready_spec {L : Array Bool} {i : Nat} (h : i ∈ Region.ready md ops L) : ∃ o, ops[i]? = some o ∧ L.getD i true = false ∧ ∀ e ∈ o.after, Region.binds md e = true → L.getD e.on false = true := by
  unfold Region.ready at h
  obtain ⟨hi, hc⟩ := List.mem_filter.1 h
  have hi := List.mem_range.1 hi
  refine ⟨ops[i], Array.getElem?_eq_getElem hi, ?_, ?_⟩
  · rw [Bool.and_eq_true] at hc
    simpa using hc.1
  · rw [Bool.and_eq_true, Array.getElem?_eq_getElem hi] at hc
    intro e he hb
    have h2 := hc.2
    simp only [Option.map_some, Option.getD_some, Array.all_eq_true_iff_forall_mem] at h2
    have := h2 e he
    rw [hb] at this
    simpa using this

theorem ready_mem {L : Array Bool} {i : Nat} {o : Oper} (ho : ops[i]? = some o) (hl : L.getD i true = false) (ha : ∀ e ∈ o.after, L.getD e.on false = true) : i ∈ Region.ready md ops L := by
  unfold Region.ready
  refine List.mem_filter.2 ⟨List.mem_range.2 (Array.getElem?_eq_some_iff.1 ho).1, ?_⟩
  rw [hl, ho, Bool.and_eq_true]
  refine ⟨rfl, ?_⟩
  simp only [Option.map_some, Option.getD_some, Array.all_eq_true_iff_forall_mem]
  intro e he
  rw [ha e he]
  simp

/-- How many operations have not come up yet. -/
def left (L : Array Bool) : Nat := L.toList.count false

theorem left_set {L : Array Bool} {i : Nat} (h : L.getD i true = false) : left L = left (L.setIfInBounds i true) + 1 := by
  unfold left
  obtain ⟨l⟩ := L
  have h' : l[i]? = some false := by
    rw [Array.getD_eq_getD_getElem?] at h
    simp only [List.getElem?_toArray] at h
    cases hx : l[i]? with
    | none => rw [hx] at h; simp at h
    | some b => rw [hx] at h; simp at h; rw [h]
  obtain ⟨hi, hv⟩ := List.getElem?_eq_some_iff.1 h'
  simp only [List.setIfInBounds_toArray]
  rw [List.count_set hi]
  have hp : 0 < List.count false l := List.count_pos_iff.2 (hv ▸ List.getElem_mem hi)
  simp [hv]
  omega

theorem all_listed {L : Array Bool} (hback : ∀ (i : Nat) o, ops[i]? = some o → ∀ e ∈ o.after, e.on < i) (hs : L.size = ops.size) (hr : Region.ready md ops L = []) : ∀ i, i < ops.size → L.getD i false = true := by
  intro i
  induction i using Nat.strongRecOn with
  | ind i ih =>
    intro hi
    cases hb : L.getD i false with
    | true => rfl
    | false =>
      have h1 : L.getD i true = false := by
        rw [Array.getD_eq_getD_getElem?] at hb ⊢
        rw [Array.getElem?_eq_getElem (by omega)] at hb ⊢
        simpa using hb
      have : i ∈ Region.ready md ops L := ready_mem (Array.getElem?_eq_getElem hi) h1 fun e he => ih e.on (hback i _ (Array.getElem?_eq_getElem hi) e he) (by have := hback i _ (Array.getElem?_eq_getElem hi) e he; omega)
      rw [hr] at this
      cases this

theorem wpAny_inv (I : Array Bool → Act → World → Prop) (hback : ∀ (i : Nat) o, ops[i]? = some o → ∀ e ∈ o.after, e.on < i)
    (hstep : ∀ L a w i o, ops[i]? = some o → L.size = ops.size → L.getD i true = false → (∀ e ∈ o.after, Region.binds md e = true → L.getD e.on false = true) → I L a w → wpOp P ops Q i (I (L.setIfInBounds i true)) a w)
    (hend : ∀ L a w, L.size = ops.size → (∀ i, i < ops.size → L.getD i false = true) → I L a w → Q .normal a w) :
    ∀ (fuel : Nat) (L : Array Bool) (a : Act) (w : World), L.size = ops.size → left L ≤ fuel → I L a w → wpAny P md ops Q fuel L a w
  | 0, L, a, w, hs, hf, hI => by
    have hr : Region.ready md ops L = [] := by
      cases hc : Region.ready md ops L with
      | nil => rfl
      | cons i rs =>
        obtain ⟨o, _, h, _⟩ := ready_spec (md := md) (ops := ops) (L := L) (i := i) (by rw [hc]; exact List.mem_cons_self)
        have := left_set h
        omega
    exact ⟨hr, hend L a w hs (all_listed hback hs hr) hI⟩
  | fuel + 1, L, a, w, hs, hf, hI => by
    refine ⟨fun hr => hend L a w hs (all_listed hback hs hr) hI, fun i hi => ?_⟩
    obtain ⟨o, ho, hl, ha⟩ := ready_spec hi
    refine wpOp_mono (fun a' w' hI' => wpAny_inv I hback hstep hend fuel _ a' w' (by simpa using hs) ?_ hI') (hstep L a w i o ho hs hl ha hI)
    have := left_set hl
    omega

/-- What holds while the operations come up: those that have come up left values that meet R. -/
structure Done (ops : Array Oper) (R : Nat → Value → World → Prop) (a0 : Act) (w0 : World) (L : Array Bool) (a : Act) (w : World) : Prop where
  size : a.tmps.size = a0.tmps.size
  defers : a.defers = a0.defers
  grown : Below w0.heap.size w0 w
  old : ∀ t, (∀ o ∈ ops, o.dst ≠ some t) → a.tmps[t]? = a0.tmps[t]?
  done : ∀ i o d, ops[i]? = some o → o.dst = some d → L.getD i false = true → ∃ v, a.tmps[d]? = some v ∧ R i v w

theorem getD_set {L : Array Bool} {i j : Nat} (h : (L.setIfInBounds i true).getD j false = true) : j = i ∨ L.getD j false = true := by
  by_cases e : j = i
  · exact .inl e
  · right
    rw [Array.getD_eq_getD_getElem?, Array.getElem?_setIfInBounds_ne (Ne.symm e)] at h
    rwa [Array.getD_eq_getD_getElem?]

theorem wpAny_grow (R : Nat → Value → World → Prop) (a0 : Act) (w0 : World)
    (hback : ∀ (i : Nat) o, ops[i]? = some o → ∀ e ∈ o.after, e.on < i)
    (hguard : ∀ (i : Nat) o, ops[i]? = some o → o.guard = none)
    (hdst : ∀ (i j : Nat) o o' d, ops[i]? = some o → ops[j]? = some o' → o.dst = some d → o'.dst = some d → i = j)
    (hlt : ∀ (i : Nat) o d, ops[i]? = some o → o.dst = some d → d < a0.tmps.size)
    (hmono : ∀ i v w w', R i v w → Below w.heap.size w w' → R i v w')
    (hstep : ∀ (i : Nat) o a w K, ops[i]? = some o → a.tmps.size = a0.tmps.size → Below w0.heap.size w0 w → (∀ t, (∀ o ∈ ops, o.dst ≠ some t) → a.tmps[t]? = a0.tmps[t]?) →
      (∀ e ∈ o.after, Region.binds md e = true → ∀ o' d, ops[e.on]? = some o' → o'.dst = some d → ∃ v, a.tmps[d]? = some v ∧ R e.on v w) →
      (∀ v w', R i v w' → Below w.heap.size w w' → K (a.put o.dst v) w') → o.wp P a w K Q)
    (hend : ∀ a w, a.tmps.size = a0.tmps.size → a.defers = a0.defers → Below w0.heap.size w0 w → (∀ t, (∀ o ∈ ops, o.dst ≠ some t) → a.tmps[t]? = a0.tmps[t]?) → (∀ i o d, ops[i]? = some o → o.dst = some d → ∃ v, a.tmps[d]? = some v ∧ R i v w) → Q .normal a w)
    : wpAny P md ops Q ops.size (Array.replicate ops.size false) a0 w0 := by
  refine wpAny_inv (Done ops R a0 w0) hback ?_ ?_ _ _ _ _ (by simp) (by simp [left]) ?_
  · intro L a w i o ho hs hl ha hI
    unfold wpOp
    simp only [ho, Region.wanted, hguard i o ho, if_true]
    refine .inl (hstep i o a w _ ho hI.size hI.grown hI.old (fun e he hb o' d ho' hd => hI.done e.on o' d ho' hd (ha e he hb)) fun v w' hR hB => ?_)
    refine ⟨?_, ?_, (hI.grown).trans (hB.mono hI.grown.size), fun t ht => ?_, fun j oj d hj hd hL => ?_⟩
    · cases hd : o.dst <;> simp [Act.put, hI.size]
    · cases hd : o.dst <;> simp [Act.put, hI.defers]
    · have hne := ht o (Array.mem_of_getElem? ho)
      rw [← hI.old t ht]
      cases hd : o.dst with
      | none => rfl
      | some d => simp only [Act.put]; rw [Array.getElem?_setIfInBounds_ne (fun e => hne (by rw [hd, e]))]
    · rcases getD_set hL with rfl | hL'
      · rw [ho] at hj
        obtain rfl := Option.some.inj hj
        refine ⟨v, ?_, hR⟩
        have := hlt _ _ d ho hd
        rw [hd]
        simp only [Act.put]
        rw [Array.getElem?_setIfInBounds_self_of_lt (by rw [hI.size]; exact this)]
      · obtain ⟨u, hu, hRu⟩ := hI.done j oj d hj hd hL'
        refine ⟨u, ?_, hmono _ _ _ _ hRu hB⟩
        cases hd' : o.dst with
        | none => exact hu
        | some d' =>
          have hne : d' ≠ d := by
            rintro rfl
            have e := hdst i j o oj d' ho hj hd' hd
            subst e
            rw [Array.getD_eq_getD_getElem?] at hl hL'
            cases hx : L[i]? with
            | none => rw [hx] at hl; simp at hl
            | some b => rw [hx] at hl hL'; simp at hl hL'; rw [hl] at hL'; cases hL'
          simp only [Act.put]
          rw [Array.getElem?_setIfInBounds_ne hne]
          exact hu
  · intro L a w hs hall hI
    exact hend a w hI.size hI.defers hI.grown hI.old fun i o d ho hd => hI.done i o d ho hd (hall i (Array.getElem?_eq_some_iff.1 ho).1)
  · exact ⟨rfl, rfl, Below.refl _ _, fun _ _ => rfl, fun i o d ho hd hL => by
      rw [Array.getD_eq_getD_getElem?, Array.getElem?_replicate] at hL
      split at hL <;> simp at hL⟩
/-- What a region must show for the rule, as one computed word. -/
def opsOk (ops : Array Oper) (n : Nat) : Bool :=
  (List.range ops.size).all fun i => match ops[i]? with
    | some o => o.after.all (fun e => decide (e.on < i)) && o.guard.isNone && (match o.dst with
      | some d => decide (d < n) && (List.range ops.size).all fun j => decide (i = j) || ((ops[j]?).bind (·.dst) != some d)
      | none => true)
    | none => true

theorem opsOk_spec {n : Nat} (h : opsOk ops n = true) :
    (∀ (i : Nat) o, ops[i]? = some o → ∀ e ∈ o.after, e.on < i) ∧ (∀ (i : Nat) o, ops[i]? = some o → o.guard = none) ∧
    (∀ (i j : Nat) o o' d, ops[i]? = some o → ops[j]? = some o' → o.dst = some d → o'.dst = some d → i = j) ∧ (∀ (i : Nat) o d, ops[i]? = some o → o.dst = some d → d < n) := by
  unfold opsOk at h
  rw [List.all_eq_true] at h
  have key : ∀ (i : Nat) o, ops[i]? = some o → (∀ e ∈ o.after, e.on < i) ∧ o.guard = none ∧ ∀ d, o.dst = some d → d < n ∧ ∀ j o', ops[j]? = some o' → o'.dst = some d → i = j := by
    intro i o ho
    have := h i (List.mem_range.2 (Array.getElem?_eq_some_iff.1 ho).1)
    rw [ho] at this
    simp only [Bool.and_eq_true] at this
    obtain ⟨⟨h1, h2⟩, h3⟩ := this
    refine ⟨fun e he => by have := (Array.all_eq_true_iff_forall_mem.1 h1) e he; simpa using this, by simpa using h2, fun d hd => ?_⟩
    rw [hd] at h3
    simp only [Bool.and_eq_true, decide_eq_true_eq] at h3
    refine ⟨h3.1, fun j o' hj hd' => ?_⟩
    have h4 := (List.all_eq_true.1 h3.2) j (List.mem_range.2 (Array.getElem?_eq_some_iff.1 hj).1)
    rw [hj] at h4
    simp only [Option.bind_some, hd', bne_self_eq_false, Bool.or_false, decide_eq_true_eq] at h4
    exact h4
  exact ⟨fun i o ho => (key i o ho).1, fun i o ho => (key i o ho).2.1, fun i j o o' d ho hj hd hd' => ((key i o ho).2.2 d hd).2 j o' hj hd', fun i o d ho hd => ((key i o ho).2.2 d hd).1⟩

theorem region_grow {id : Nat} (hm : P.follows .mixedOrders = true) (R : Nat → Value → World → Prop) (a0 : Act) (w0 : World) (hok : opsOk ops a0.tmps.size = true)
    (hmono : ∀ i v w w', R i v w → Below w.heap.size w w' → R i v w')
    (hstep : ∀ (i : Nat) o a w K, ops[i]? = some o → a.tmps.size = a0.tmps.size → Below w0.heap.size w0.drew w → (∀ t, (∀ o ∈ ops, o.dst ≠ some t) → a.tmps[t]? = a0.tmps[t]?) →
      (∀ e ∈ o.after, Region.binds .any e = true → ∀ o' d, ops[e.on]? = some o' → o'.dst = some d → ∃ v, a.tmps[d]? = some v ∧ R e.on v w) →
      (∀ v w', R i v w' → Below w.heap.size w w' → K (a.put o.dst v) w') → o.wp P a w K Q)
    (hend : ∀ a w, a.tmps.size = a0.tmps.size → a.defers = a0.defers → Below w0.heap.size w0.drew w → (∀ t, (∀ o ∈ ops, o.dst ≠ some t) → a.tmps[t]? = a0.tmps[t]?) → (∀ i o d, ops[i]? = some o → o.dst = some d → ∃ v, a.tmps[d]? = some v ∧ R i v w) → Q .normal a w)
    : (Code.region id ops true).wp P Q a0 w0 := by
  obtain ⟨h1, h2, h3, h4⟩ := opsOk_spec hok
  exact wp_region_any hm (wpAny_grow R a0 w0.drew h1 h2 h3 h4 hmono hstep hend)
/-- What is asked of each operation of a list, by its number. -/
def From (F : Nat → Oper → Prop) : Nat → List Oper → Prop
  | _, [] => True
  | k, o :: l => F k o ∧ From F (k + 1) l
theorem from_each {F : Nat → Oper → Prop} : ∀ {l : List Oper} {k : Nat}, From F k l → ∀ (i : Nat) o, l[i]? = some o → F (k + i) o
  | [], _, _, i, o, h => by simp at h
  | x :: l, k, h, 0, o, ho => by
    obtain rfl : x = o := by simpa using ho
    exact h.1
  | x :: l, k, h, i + 1, o, ho => by
    have := from_each h.2 i o (by simpa using ho)
    rwa [show k + (i + 1) = k + 1 + i by omega]
theorem each_of {F : Nat → Oper → Prop} {l : List Oper} (h : From F 0 l) (i : Nat) (o : Oper) (ho : l.toArray[i]? = some o) : F i o := by
  have := from_each h i o (by simpa using ho)
  rwa [Nat.zero_add] at this

/-- What the rule asks of one operation. -/
def StepOk (P : Program) (ops : Array Oper) (Q : Exit → Act → World → Prop) (R : Nat → Value → World → Prop) (a0 : Act) (w0 : World) (i : Nat) (o : Oper) : Prop :=
  ∀ a w K, Below w0.heap.size w0.drew w → (∀ t, (∀ o ∈ ops, o.dst ≠ some t) → a.tmps[t]? = a0.tmps[t]?) →
      (∀ e ∈ o.after, Region.binds .any e = true → ∀ o' d, ops[e.on]? = some o' → o'.dst = some d → ∃ v, a.tmps[d]? = some v ∧ R e.on v w) →
      (∀ v w', R i v w' → Below w.heap.size w w' → K (a.put o.dst v) w') → o.wp P a w K Q

theorem region_from {id : Nat} {l : List Oper} (hm : P.follows .mixedOrders = true) (R : Nat → Value → World → Prop) (a0 : Act) (w0 : World) (hok : opsOk l.toArray a0.tmps.size = true)
    (hmono : ∀ i v w w', R i v w → Below w.heap.size w w' → R i v w')
    (hstep : From (StepOk P l.toArray Q R a0 w0) 0 l)
    (hend : ∀ a w, a.tmps.size = a0.tmps.size → a.defers = a0.defers → Below w0.heap.size w0.drew w → (∀ t, (∀ o ∈ l.toArray, o.dst ≠ some t) → a.tmps[t]? = a0.tmps[t]?) → (∀ i o d, l.toArray[i]? = some o → o.dst = some d → ∃ v, a.tmps[d]? = some v ∧ R i v w) → Q .normal a w)
    : (Code.region id l.toArray true).wp P Q a0 w0 :=
  region_grow hm R a0 w0 hok hmono (fun i o a w K ho _ hB hold hdep hK => each_of hstep i o ho a w K hB hold hdep hK) hend

theorem wp_run {o : Oper} {a : Act} {w w2 : World} {K : Act → World → Prop} {v : Value} (h : (execOp a.eval o).run P w = .ok (.value v) w2) (hK : K (a.put o.dst v) w2) : o.wp P a w K Q := by
  unfold Oper.wp
  rw [h]
  exact hK
theorem tmp_of {a : Act} {t : Nat} {v : Value} (h : a.tmps[t]? = some v) : a.eval (.tmp t) = v := by
  show a.tmps.getD t undef = v
  rw [Array.getD_eq_getD_getElem?, h]
  rfl
theorem wp_enter {o : Oper} {a : Act} {w w2 : World} {K : Act → World → Prop} {f : FuncId} {args : Array Value} (h : (execOp a.eval o).run P w = .ok (.enter f args) w2)
    (hc : Calls P f args w2 fun e w' => ∃ v, e = .returned v ∧ K (a.put o.dst v) w') : o.wp P a w K Q := by
  unfold Oper.wp
  rw [h]
  exact Calls.mono hc fun e w' ⟨v, he, hk⟩ => by subst he; exact hk
/-- An array of so many values, written out. -/
def Spelt : Nat → (List Value → Prop) → Prop
  | 0, F => F []
  | n + 1, F => ∃ x, Spelt n fun l => F (x :: l)
theorem spelt : ∀ (n : Nat) (F : List Value → Prop) (l : List Value), l.length = n → F l → Spelt n F
  | 0, F, l, h, hF => by
    obtain rfl := List.eq_nil_of_length_eq_zero h
    exact hF
  | n + 1, F, [], h, hF => by simp at h
  | n + 1, F, x :: l, h, hF => ⟨x, spelt n (fun l => F (x :: l)) l (by simpa using h) hF⟩
theorem spelt_array {n : Nat} {T : Array Value} (h : T.size = n) : Spelt n fun l => T = l.toArray := spelt n _ T.toList (by simpa using h) (by simp)
end
end Go.Proofs.YtofbdaicahngfaaFmt
