/-
  The law: adding a label answers what looking it up answered just before.
-/
import Derived.Test.YtofbdaicahngfaaLabel
import Derived.Outline
namespace Go.Proofs.Ytofbdaicahngfaa
open Go.RowKit
set_option linter.unusedVariables false

def SomeB (w : World) (e : Ending) (w' : World) : Prop := ∃ b, e = .returned (.bool b) ∧ w = w'
theorem SomeB.mk {w : World} (b : Bool) : SomeB w (.returned (.bool b)) w := ⟨b, rfl, rfl⟩
def OkPost (n : Nat) (rs : List ByteArray) (w : World) (e : Ending) (w' : World) : Prop := ∃ b, e = .returned (.bool b) ∧ w = w' ∧ (b = true → n ≤ 65536 ∧ ∀ z ∈ rs, z.size ≤ 1048576)
theorem OkPost.no {n : Nat} {rs : List ByteArray} {w : World} : OkPost n rs w (.returned (.bool false)) w := ⟨false, rfl, rfl, fun h => by cases h⟩

set_option maxRecDepth 100000 in
theorem strOk_c (A : Option Addr) (n c : Nat) (rs : List ByteArray) (w : World) (m : n ≤ 9223372036854775807) (h : Arg w A n c (rs.map Value.string)) (hz : ∀ z ∈ rs, z.size ≤ maxLen) : Calls Try.prog 7 #[.slice A n c] w (OkPost n rs w) := by
  have H := Lib.hid h
  have HZ := Lib.hid hz
  clear h hz
  by_cases g0 : n ≤ 65536
  · go_enter Try.func7, Try.ntmps7
    go_wp2
    go_loopw [3, 4] (fun t i wr => ∃ k z : Nat, k ≤ n ∧ i = .int .i64 k ∧ t = .int .i64 z ∧ z ≤ 1048576 ∧ Hid (∀ j y, j < k → rs[j]? = some y → y.size ≤ 1048576) ∧ wr = w) (fun _ i _ => n - (intOf i).toNat)
    case atStart => exact ⟨0, 16 * n, Nat.zero_le _, rfl, by go_num, by omega, Lib.hid (fun j y h _ => absurd h (by omega)), rfl⟩
    case round =>
      obtain ⟨k, z, hk, rfl, rfl, hz, hall, rfl⟩ := hrel
      by_cases hlt : k < n
      · obtain ⟨x, hx⟩ : ∃ x, rs[k]? = some x := ⟨rs[k]'(by have := H.out.1; rw [List.length_map] at this; omega), List.getElem?_eq_getElem _⟩
        obtain ⟨b, off, rfl, hb, hc⟩ := H.out.2.2.2.2 (by omega)
        have ck : wr.cell? ⟨b, off + k, none⟩ = some (.string x) := hc k _ (by rw [List.getElem?_map, hx]; rfl)
        have xs : x.size ≤ 9223372036854775807 := by have := HZ.out x (List.mem_of_getElem? hx); unfold maxLen at this; omega
        have i0 : (0 : Int) ≤ (k : Int) := by omega
        have i1 : (k : Int) < (n : Int) := by omega
        have HX := Lib.hid hx
        clear hx hc
        by_cases h1 : x.size ≤ 1048576
        · by_cases h2 : z + x.size ≤ 1048576
          · go_wp2
            go_roundw
            case rel => exact ⟨k + 1, z + x.size, by omega, by go_num, by go_num, h2, Lib.hid (fun j y hj hy => by
              by_cases e : j = k
              · subst e
                rw [HX.out] at hy
                obtain rfl := Option.some.inj hy
                exact h1
              · exact hall.out j y (by omega) hy), by first | rfl | trivial⟩
            case measure => simp [intOf]; omega
          · have h2' : 1048576 < z + x.size := by omega
            clear h2
            go_wp2
            go_ret
            exact OkPost.no
        · have h1' : 1048576 < x.size := by omega
          clear h1
          go_wp2
          go_ret
          exact OkPost.no
      · obtain rfl : k = n := by omega
        have hf : Hid (∀ z ∈ rs, z.size ≤ 1048576) := Lib.hid (fun y hy => by
          obtain ⟨j, hj⟩ := List.mem_iff_getElem?.1 hy
          exact hall.out j y (by have := (List.getElem?_eq_some_iff.1 hj).1; have := H.out.1; rw [List.length_map] at this; omega) hj)
        go_wp2
        go_ret
        exact ⟨true, rfl, rfl, fun _ => ⟨g0, hf.out⟩⟩
  · have g0' : 65536 < n := by omega
    clear g0
    go_enter Try.func7, Try.ntmps7
    go_wp2
    go_ret
    exact OkPost.no

set_option maxRecDepth 100000 in
theorem bytes6_c (a1 a2 a3 : Int) (A : Option Addr) (n c : Nat) (bb : Bool) (rs : List ByteArray) (w : World) (m : n ≤ 9223372036854775807) (h : Arg w A n c (rs.map Value.string)) (hz : ∀ z ∈ rs, z.size ≤ maxLen) : Calls Try.prog 6 #[.int .i64 a1, .int .i64 a2, .int .i64 a3, .slice A n c, .bool bb] w (SomeB w) := by
  have H := Lib.hid h
  have HZ := Lib.hid hz
  clear h hz
  go_enter Try.func6, Try.ntmps6
  go_wp2
  any_goals (go_ret; exact SomeB.mk _)
  go_loopw [11, 12] (fun t i wr => ∃ k z : Nat, k ≤ n ∧ i = .int .i64 k ∧ t = .int .i64 z ∧ z ≤ 1048576 ∧ wr = w) (fun _ i _ => n - (intOf i).toNat)
  case atStart => exact ⟨0, n, Nat.zero_le _, rfl, by go_num, by omega, rfl⟩
  case round =>
    obtain ⟨k, z, hk, rfl, rfl, hz, rfl⟩ := hrel
    by_cases hlt : k < n
    · obtain ⟨x, hx⟩ : ∃ x, rs[k]? = some x := ⟨rs[k]'(by have := H.out.1; rw [List.length_map] at this; omega), List.getElem?_eq_getElem _⟩
      obtain ⟨b, off, rfl, hb, hc⟩ := H.out.2.2.2.2 (by omega)
      have ck : wr.cell? ⟨b, off + k, none⟩ = some (.string x) := hc k _ (by rw [List.getElem?_map, hx]; rfl)
      have xs : x.size ≤ 9223372036854775807 := by have := HZ.out x (List.mem_of_getElem? hx); unfold maxLen at this; omega
      have i0 : (0 : Int) ≤ (k : Int) := by omega
      have i1 : (k : Int) < (n : Int) := by omega
      clear hx hc
      by_cases h1 : x.size ≤ 1048576
      · by_cases h2 : z + x.size ≤ 1048576
        · go_wp2
          go_roundw
          case rel => exact ⟨k + 1, z + x.size, by omega, by go_num, by go_num, h2, by first | rfl | trivial⟩
          case measure => simp [intOf]; omega
        · have h2' : 1048576 < z + x.size := by omega
          clear h2
          go_wp2
          go_ret
          exact SomeB.mk _
      · have h1' : 1048576 < x.size := by omega
        clear h1
        go_wp2
        go_ret
        exact SomeB.mk _
    · obtain rfl : k = n := by omega
      go_wp2
      go_ret
      exact SomeB.mk _

set_option maxHeartbeats 1000000 in
set_option maxRecDepth 100000 in
theorem bytes18_c (A1 : Option Addr) (n1 c1 : Nat) (rs : List ByteArray) (A2 : Option Addr) (n2 c2 : Nat) (ts : List ByteArray) (w : World) (m1 : n1 ≤ 9223372036854775807) (m2 : n2 ≤ 9223372036854775807) (h1 : Arg w A1 n1 c1 (rs.map Value.string)) (hz1 : ∀ z ∈ rs, z.size ≤ maxLen) (h2 : Arg w A2 n2 c2 (ts.map Value.string)) (hz2 : ∀ z ∈ ts, z.size ≤ maxLen) : Calls Try.prog 18 #[.slice A1 n1 c1, .slice A2 n2 c2] w (SomeB w) := by
  have H1 := Lib.hid h1
  have HZ1 := Lib.hid hz1
  have H2 := Lib.hid h2
  have HZ2 := Lib.hid hz2
  clear h1 hz1 h2 hz2
  by_cases g1 : n1 ≤ 1048576
  · go_enter Try.func18, Try.ntmps18
    go_wp2
    go_loopw [5, 6] (fun t i wr => ∃ k z : Nat, k ≤ n1 ∧ i = .int .i64 k ∧ t = .int .i64 z ∧ z ≤ 1048576 ∧ wr = w) (fun _ i _ => n1 - (intOf i).toNat)
    case atStart => exact ⟨0, n1, Nat.zero_le _, rfl, by go_num, by omega, rfl⟩
    case round =>
      obtain ⟨k, z, hk, rfl, rfl, hz, rfl⟩ := hrel
      by_cases hlt : k < n1
      · obtain ⟨x, hx⟩ : ∃ x, rs[k]? = some x := ⟨rs[k]'(by have := H1.out.1; rw [List.length_map] at this; omega), List.getElem?_eq_getElem _⟩
        obtain ⟨b, off, rfl, hb, hc⟩ := H1.out.2.2.2.2 (by omega)
        have ck : wr.cell? ⟨b, off + k, none⟩ = some (.string x) := hc k _ (by rw [List.getElem?_map, hx]; rfl)
        have xs : x.size ≤ 9223372036854775807 := by have := HZ1.out x (List.mem_of_getElem? hx); unfold maxLen at this; omega
        have i0 : (0 : Int) ≤ (k : Int) := by omega
        have i1 : (k : Int) < (n1 : Int) := by omega
        clear hx hc
        by_cases h1 : x.size ≤ 1048576
        · by_cases h2 : z + x.size ≤ 1048576
          · go_wp2
            go_roundw
            case rel => exact ⟨k + 1, z + x.size, by omega, by go_num, by go_num, h2, by first | rfl | trivial⟩
            case measure => simp [intOf]; omega
          · have h2' : 1048576 < z + x.size := by omega
            clear h2
            go_wp2
            go_ret
            exact SomeB.mk _
        · have h1' : 1048576 < x.size := by omega
          clear h1
          go_wp2
          go_ret
          exact SomeB.mk _
      · obtain rfl : k = n1 := by omega
        go_wp2
        any_goals (go_ret; exact SomeB.mk _)
        go_loopw [5, 7] (fun t i w' => ∃ j y : Nat, j ≤ n2 ∧ i = .int .i64 j ∧ t = .int .i64 y ∧ y ≤ 1048576 ∧ w' = wr) (fun _ i _ => n2 - (intOf i).toNat)
        case atStart => exact ⟨0, z + n2, Nat.zero_le _, rfl, by go_num, by omega, rfl⟩
        case round =>
          obtain ⟨k, z, hk, rfl, rfl, hz, rfl⟩ := hrel
          by_cases hlt : k < n2
          · obtain ⟨x, hx⟩ : ∃ x, ts[k]? = some x := ⟨ts[k]'(by have := H2.out.1; rw [List.length_map] at this; omega), List.getElem?_eq_getElem _⟩
            obtain ⟨b, off, rfl, hb, hc⟩ := H2.out.2.2.2.2 (by omega)
            have ck : wr.cell? ⟨b, off + k, none⟩ = some (.string x) := hc k _ (by rw [List.getElem?_map, hx]; rfl)
            have xs : x.size ≤ 9223372036854775807 := by have := HZ2.out x (List.mem_of_getElem? hx); unfold maxLen at this; omega
            have i0 : (0 : Int) ≤ (k : Int) := by omega
            have i1 : (k : Int) < (n2 : Int) := by omega
            clear hx hc
            by_cases h1 : x.size ≤ 1048576
            · by_cases h2 : z + x.size ≤ 1048576
              · go_wp2
                go_roundw
                case rel => exact ⟨k + 1, z + x.size, by omega, by go_num, by go_num, h2, by first | rfl | trivial⟩
                case measure => simp [intOf]; omega
              · have h2' : 1048576 < z + x.size := by omega
                clear h2
                go_wp2
                go_ret
                exact SomeB.mk _
            · have h1' : 1048576 < x.size := by omega
              clear h1
              go_wp2
              go_ret
              exact SomeB.mk _
          · obtain rfl : k = n2 := by omega
            go_wp2
            go_ret
            exact SomeB.mk _
  · have g1' : 1048576 < n1 := by omega
    clear g1
    go_enter Try.func18, Try.ntmps18
    go_wp2
    go_ret
    exact SomeB.mk _

/-- The descriptor behind each label bears its name. -/
def DW (w : World) (F : List UInt8 → Nat) : Prop := ∀ (q : ByteArray) (b : Nat), F q.data.toList = b + 1 → LD w b q
theorem LD.below {w w' : World} {l : Nat} {q : ByteArray} (h : LD w l q) (hb : Below w.heap.size w w') : LD w' l q := by
  obtain ⟨a, b, c, e, h⟩ := h
  exact ⟨a, b, c, e, h.below hb h.lt⟩
theorem LD.grown {w w' : World} {l mb n s : Nat} {F : List UInt8 → Nat} {q : ByteArray} (h : LD w l q) (hl : LM w mb n s F) (hg : w.grownBy w' (some mb)) : LD w' l q := by
  obtain ⟨a, b, c, e, h⟩ := h
  refine ⟨a, b, c, e, h.grown hg ?_⟩
  intro e2
  obtain rfl : l = mb := by simpa using e2
  obtain ⟨D, ⟨es, cl, h1, _⟩, _⟩ := hl
  unfold Blk at h
  rw [h1] at h
  cases h
theorem CB.grown {w w' : World} {d p mb n s : Nat} {bl fg : Int} {par : Option Addr} {F : List UInt8 → Nat} {mb2 : Nat} (h : CB w d p bl fg par mb) (hl : LM w mb2 n s F) (hg : w.grownBy w' (some mb2)) : CB w' d p bl fg par mb := by
  refine Blk.grown h hg ?_
  intro e2
  obtain rfl : d = mb2 := by simpa using e2
  obtain ⟨D, ⟨es, cl, h1, _⟩, _⟩ := hl
  unfold CB Blk at h
  rw [h1] at h
  cases h
theorem DW.below {w w' : World} {F : List UInt8 → Nat} (h : DW w F) (hb : Below w.heap.size w w') : DW w' F := fun q b hq => (h q b hq).below hb
theorem bytes_inj {a b : ByteArray} (h : a.data.toList = b.data.toList) : a = b := by
  cases a; cases b; simpa using h
theorem DW.add {w w' : World} {F : List UInt8 → Nat} {mb n s l : Nat} {q : ByteArray} (h : DW w F) (hl : LM w mb n s F) (hd : LD w l q) (hg : w.grownBy w' (some mb)) : DW w' (updF F q.data.toList (l + 1)) := by
  intro r b hr
  unfold updF at hr
  by_cases e : r.data.toList = q.data.toList
  · rw [if_pos e] at hr
    obtain rfl := bytes_inj e
    obtain rfl : l = b := by omega
    exact hd.grown hl hg
  · rw [if_neg e] at hr
    exact (h r b hr).grown hl hg
/-- One label more, whichever way it goes: what is handed back, and what stands behind it. -/
def AddPost (w : World) (d p mb n : Nat) (bl fg : Int) (par : Option Addr) (F : List UInt8 → Nat) (q : ByteArray) (l B : Nat) (e : Ending) (w' : World) : Prop :=
  e = .returned (ptrOf (F q.data.toList)) ∧ CB w' d p bl fg par mb ∧ Below B w w' ∧ ∃ s' F', LM w' mb (n + 1) s' F' ∧ DW w' F' ∧ F' q.data.toList = (if F q.data.toList = 0 then l + 1 else F q.data.toList)
theorem LM.mono {w : World} {mb n s : Nat} {F : List UInt8 → Nat} (h : LM w mb n s F) : LM w mb (n + 1) s F := by
  obtain ⟨D, h1, h2⟩ := h
  exact ⟨D, h1.mono (Nat.le_succ _), h2⟩
theorem add_c (w : World) (d p : Nat) (bl fg : Int) (par : Option Addr) (mb n s : Nat) (F : List UInt8 → Nat) (q : ByteArray) (l B : Nat) (h : CB w d p bl fg par mb) (hl : LM w mb n s F) (hw : DW w F) (hq : q.size ≤ maxLen) (hn : n < 1048576) (hd : LD w l q) (hB : B ≤ mb) (hBw : B ≤ w.heap.size) :
    Calls Try.prog 17 #[.pointer (some ⟨d, 0, none⟩), .pointer (some ⟨l, 0, none⟩)] w (AddPost w d p mb n bl fg par F q l B) := by
  by_cases hF : F q.data.toList = 0
  · refine (addNew_c w d p bl fg par mb n s F q l h hl hq hn hd hF).mono fun e w' ⟨h1, h2, h3⟩ => ⟨by rw [h1, hF]; rfl, h.grown hl h3, (Below.refl B w).grown h3 hBw (fun j hj => by cases hj; exact hB), _, _, h2, hw.add hl hd h3, ?_⟩
    rw [if_pos hF]
    unfold updF
    rw [if_pos rfl]
  · obtain ⟨b, hb⟩ : ∃ b, F q.data.toList = b + 1 := ⟨F q.data.toList - 1, by omega⟩
    refine (addOld_c w d p bl fg par mb n s F q l b h hl hq hd hb).mono fun e w' ⟨h1, k, h2⟩ => ?_
    subst h2
    refine ⟨by rw [h1, hb]; rfl, h, below_drewN (Below.refl B w) k, s, F, (hl.drewN k).mono, hw, ?_⟩
    rw [if_neg hF]

set_option maxHeartbeats 2000000 in
set_option maxRecDepth 100000 in
theorem law_agree (A1 : Option Addr) (n1 c1 : Nat) (rs : List ByteArray) (A2 : Option Addr) (n2 c2 : Nat) (ts : List ByteArray) (w : World) (g1 : Arg w A1 n1 c1 (rs.map Value.string)) (r1 : ∀ z ∈ rs, z.size ≤ maxLen) (g2 : Arg w A2 n2 c2 (ts.map Value.string)) (r2 : ∀ z ∈ ts, z.size ≤ maxLen) :
    Calls Try.prog 4 #[.slice A1 n1 c1, .slice A2 n2 c2] w fun e w' => e = .returned (.bool true) ∧ Below w.heap.size w w' := by
  have m1 : n1 ≤ 9223372036854775807 := by have h1 := g1.2.1; have h2 := g1.2.2.1; unfold maxLen at h2; omega
  have m2 : n2 ≤ 9223372036854775807 := by have h1 := g2.2.1; have h2 := g2.2.2.1; unfold maxLen at h2; omega
  have G1 := Lib.hid g1
  have G2 := Lib.hid g2
  have R1 := Lib.hid r1
  have R2 := Lib.hid r2
  clear g1 g2 r1 r2
  by_cases s1 : n1 ≤ 4096
  · by_cases s2 : n2 ≤ 4096
    · go_enter Try.func4, Try.ntmps4
      go_wp2_with fail
      refine (bytes18_c A1 n1 c1 rs A2 n2 c2 ts w m1 m2 G1.out R1.out G2.out R2.out).mono ?_; rintro e w' ⟨b, rfl, rfl⟩
      cases b
      · go_wp2_with fail
        go_ret
        exact ⟨rfl, Below.refl _ _⟩
      go_wp2_with fail
      refine (strOk_c A1 n1 c1 rs w m1 G1.out R1.out).mono ?_; rintro e w' ⟨b, rfl, rfl, hb1⟩
      cases b
      · go_wp2_with fail
        go_ret
        exact ⟨rfl, Below.refl _ _⟩
      clear hb1
      go_wp2_with fail
      refine (strOk_c A2 n2 c2 ts w m2 G2.out R2.out).mono ?_; rintro e w' ⟨b, rfl, rfl, hb2⟩
      cases b
      · go_wp2_with fail
        go_ret
        exact ⟨rfl, Below.refl _ _⟩
      clear hb2
      go_wp2_with fail
      refine (copy_str A1 n1 c1 rs w G1.out (by omega)).mono ?_; rintro e w1 ⟨A3, c3, rfl, a3, b1⟩
      have A3' := Lib.hid a3
      have B1 := Lib.hid b1
      have G2' := Lib.hid (G2.out.below b1)
      clear a3 b1
      go_wp2_with fail
      refine (copy_str A2 n2 c2 ts w1 G2'.out (by omega)).mono ?_; rintro e w2 ⟨A4, c4, rfl, a4, b2⟩
      have A4' := Lib.hid a4
      have A3'' := Lib.hid (A3'.out.below b2)
      have B2 := Lib.hid (B1.out.trans (b2.mono B1.out.size))
      clear a4 b2
      go_wp2_with fail
      refine (newPool_c 0 w2).mono ?_; rintro e w3 ⟨p, rfl, -, b3⟩
      have B3 := Lib.hid b3
      clear b3
      go_wp2_with fail
      refine (newCB_c w3 p 0 0 none).mono ?_; rintro e w4 ⟨d, mb, rfl, hcb, hlm, b4, hd, hmb⟩
      have hs3 := B3.out.size
      have hmb2 : w2.heap.size ≤ mb := by omega
      have CB4 := Lib.hid hcb
      have LM4 := Lib.hid hlm
      have B4 := Lib.hid (B3.out.trans (b4.mono B3.out.size))
      clear hcb hlm b4 hd hmb hs3
      go_wp2_with fail
      go_loopw [6] (fun i wr => ∃ (k s : Nat) (F : List UInt8 → Nat), k ≤ n1 ∧ i = .int .i64 k ∧ Hid (CB wr d p 0 0 none mb) ∧ Hid (LM wr mb k s F) ∧ Hid (DW wr F) ∧ Hid (Below w2.heap.size w2 wr)) (fun i _ => n1 - (intOf i).toNat)
      case atStart => exact ⟨0, 0, fun _ => 0, Nat.zero_le _, rfl, CB4.out, LM4.out, Lib.hid (fun q b h => by cases h), B4.out⟩
      case round =>
        obtain ⟨k, s, F, hk, rfl, hCB, hLM, hDW, hB⟩ := hrel
        by_cases hlt : k < n1
        · obtain ⟨x, hx⟩ : ∃ x, rs[k]? = some x := ⟨rs[k]'(by have := A3''.out.1; rw [List.length_map] at this; omega), List.getElem?_eq_getElem _⟩
          obtain ⟨b1, o1, rfl, _, hc1⟩ := (A3''.out.below hB.out).2.2.2.2 (by omega)
          have ck1 : wr.cell? ⟨b1, o1 + k, none⟩ = some (.string x) := hc1 k _ (by rw [List.getElem?_map, hx]; rfl)
          have xs : x.size ≤ maxLen := R1.out x (List.mem_of_getElem? hx)
          have XS := Lib.hid xs
          have i0 : (0 : Int) ≤ (k : Int) := by omega
          have i1 : (k : Int) < (n1 : Int) := by omega
          clear hx hc1 xs
          go_wp2_with fail
          refine (newLabel_c wr _ _ _ _ x).mono ?_; rintro e w5 ⟨l, rfl, hld, b5, _⟩
          have HLD := Lib.hid hld
          have CB5 : Hid (CB w5 d p 0 0 none mb) := Lib.hid (hCB.out.below b5 hCB.out.lt)
          have LM5 := Lib.hid (hLM.out.below b5)
          have DW5 := Lib.hid (hDW.out.below b5)
          have B5 := Lib.hid (hB.out.trans (b5.mono hB.out.size))
          clear hld b5
          go_wp2_with fail
          refine (add_c w5 d p 0 0 none mb k s F x l w2.heap.size CB5.out LM5.out DW5.out XS.out (by omega) HLD.out hmb2 B5.out.size).mono ?_; rintro e w6 ⟨rfl, hcb6, b6, s6, F6, hlm6, hdw6, _⟩
          have CB6 := Lib.hid hcb6
          have LM6 := Lib.hid hlm6
          have DW6 := Lib.hid hdw6
          have B6 := Lib.hid (B5.out.trans b6)
          clear hcb6 b6 hlm6 hdw6
          go_wp2_with fail
          go_roundw
          case rel => exact ⟨k + 1, s6, F6, by omega, by go_num, CB6.out, LM6.out, DW6.out, B6.out⟩
          case measure => simp [intOf]; omega
        · obtain rfl : k = n1 := by omega
          go_wp2_with fail
          go_loopw [8] (fun i wr => ∃ (j s : Nat) (F : List UInt8 → Nat), j ≤ n2 ∧ i = .int .i64 j ∧ Hid (CB wr d p 0 0 none mb) ∧ Hid (LM wr mb (k + j) s F) ∧ Hid (DW wr F) ∧ Hid (Below w2.heap.size w2 wr)) (fun i _ => n2 - (intOf i).toNat)
          case atStart => exact ⟨0, s, F, Nat.zero_le _, rfl, hCB.out, hLM.out, hDW.out, hB.out⟩
          case round =>
            obtain ⟨j, s, F, hj, rfl, hCB, hLM, hDW, hB⟩ := hrel
            by_cases hlt : j < n2
            · obtain ⟨x, hx⟩ : ∃ x, ts[j]? = some x := ⟨ts[j]'(by have := A4'.out.1; rw [List.length_map] at this; omega), List.getElem?_eq_getElem _⟩
              obtain ⟨b1, o1, rfl, _, hc1⟩ := (A4'.out.below hB.out).2.2.2.2 (by omega)
              have ck1 : wr.cell? ⟨b1, o1 + j, none⟩ = some (.string x) := hc1 j _ (by rw [List.getElem?_map, hx]; rfl)
              have xs : x.size ≤ maxLen := R2.out x (List.mem_of_getElem? hx)
              have XS := Lib.hid xs
              have i0 : (0 : Int) ≤ (j : Int) := by omega
              have i1 : (j : Int) < (n2 : Int) := by omega
              clear hx hc1 xs
              go_wp2_with fail
              refine (getLabel_c wr d p 0 0 none mb (k + j) s F x hCB.out hLM.out XS.out).mono ?_; rintro e w' ⟨rfl, rfl⟩
              obtain ⟨j42, info42j, _⟩ := Option.map_eq_some_iff.1 (show (Try.prog.info? 42).map (·.size) = some 5 by kernel_rfl)
              have nqp := fun (W : World) (a : Addr) => Lib.run_neq_ptr_same (P := Try.prog) (w := W) a Try.underlying35 info42j
              have sq : (x.toList == x.toList) = true := by simp
              obtain hc | ⟨b, hc⟩ : F x.data.toList = 0 ∨ ∃ b, F x.data.toList = b + 1 := by cases F x.data.toList with | zero => exact .inl rfl | succ b => exact .inr ⟨b, rfl⟩
              · have HC := Lib.hid hc
                simp only [hc, ptrOf]
                clear hc
                go_wp2_with fail
                refine (newLabel_c wr _ _ _ _ x).mono ?_; rintro e w5 ⟨l, rfl, hld, b5, _⟩
                have HLD := Lib.hid hld
                have CB5 : Hid (CB w5 d p 0 0 none mb) := Lib.hid (hCB.out.below b5 hCB.out.lt)
                have LM5 := Lib.hid (hLM.out.below b5)
                have DW5 := Lib.hid (hDW.out.below b5)
                have B5 := Lib.hid (hB.out.trans (b5.mono hB.out.size))
                clear hld b5
                go_wp2_with fail
                refine (add_c w5 d p 0 0 none mb (k + j) s F x l w2.heap.size CB5.out LM5.out DW5.out XS.out (by omega) HLD.out hmb2 B5.out.size).mono ?_; rintro e w6 ⟨rfl, hcb6, b6, s6, F6, hlm6, hdw6, hv⟩
                rw [HC.out, if_pos rfl] at hv
                simp only [HC.out, ptrOf]
                have hn := hdw6 x l hv
                obtain ⟨la, lb, lc, le, hblk⟩ := hn
                have nm := (hblk.cell 1).trans rfl
                have CB6 := Lib.hid hcb6
                have LM6 := Lib.hid hlm6
                have DW6 := Lib.hid hdw6
                have B6 := Lib.hid (B5.out.trans b6)
                have HV := Lib.hid hv
                clear hcb6 b6 hlm6 hdw6 hv hblk
                go_wp2_with fail
                refine (getLabel_c w6 d p 0 0 none mb _ s6 F6 x CB6.out LM6.out XS.out).mono ?_; rintro e w' ⟨rfl, rfl⟩
                simp only [HV.out, ptrOf]
                go_wp2_with fail
                go_roundw
                case rel => exact ⟨j + 1, s6, F6, by omega, by go_num, CB6.out, LM6.out, DW6.out, B6.out⟩
                case measure => simp [intOf]; omega
              · have HC := Lib.hid hc
                simp only [hc, ptrOf]
                clear hc
                go_wp2_with fail
                refine (newLabel_c wr _ _ _ _ x).mono ?_; rintro e w5 ⟨l, rfl, hld, b5, _⟩
                have HLD := Lib.hid hld
                have CB5 : Hid (CB w5 d p 0 0 none mb) := Lib.hid (hCB.out.below b5 hCB.out.lt)
                have LM5 := Lib.hid (hLM.out.below b5)
                have DW5 := Lib.hid (hDW.out.below b5)
                have B5 := Lib.hid (hB.out.trans (b5.mono hB.out.size))
                clear hld b5
                go_wp2_with fail
                refine (add_c w5 d p 0 0 none mb (k + j) s F x l w2.heap.size CB5.out LM5.out DW5.out XS.out (by omega) HLD.out hmb2 B5.out.size).mono ?_; rintro e w6 ⟨rfl, hcb6, b6, s6, F6, hlm6, hdw6, hv⟩
                rw [HC.out, if_neg (by omega)] at hv
                simp only [HC.out, ptrOf]
                have hn := hdw6 x b hv
                obtain ⟨la, lb, lc, le, hblk⟩ := hn
                have nm := (hblk.cell 1).trans rfl
                have CB6 := Lib.hid hcb6
                have LM6 := Lib.hid hlm6
                have DW6 := Lib.hid hdw6
                have B6 := Lib.hid (B5.out.trans b6)
                have HV := Lib.hid hv
                clear hcb6 b6 hlm6 hdw6 hv hblk
                go_wp2_with fail
                refine (getLabel_c w6 d p 0 0 none mb _ s6 F6 x CB6.out LM6.out XS.out).mono ?_; rintro e w' ⟨rfl, rfl⟩
                simp only [HV.out, ptrOf]
                go_wp2_with fail
                go_roundw
                case rel => exact ⟨j + 1, s6, F6, by omega, by go_num, CB6.out, LM6.out, DW6.out, B6.out⟩
                case measure => simp [intOf]; omega
            · obtain rfl : j = n2 := by omega
              go_wp2_with fail
              go_ret
              exact ⟨rfl, B2.out.trans (hB.out.mono B2.out.size)⟩
    · have s2' : 4096 < n2 := by omega
      clear s2
      go_enter Try.func4, Try.ntmps4
      go_wp2_with fail
      refine (bytes18_c A1 n1 c1 rs A2 n2 c2 ts w m1 m2 G1.out R1.out G2.out R2.out).mono ?_; rintro e w' ⟨b, rfl, rfl⟩
      cases b
      all_goals
        go_wp2_with fail
        go_ret
        exact ⟨rfl, Below.refl _ _⟩
  · have s1' : 4096 < n1 := by omega
    clear s1
    go_enter Try.func4, Try.ntmps4
    go_wp2_with fail
    refine (bytes18_c A1 n1 c1 rs A2 n2 c2 ts w m1 m2 G1.out R1.out G2.out R2.out).mono ?_; rintro e w' ⟨b, rfl, rfl⟩
    cases b
    all_goals
      go_wp2_with fail
      go_ret
      exact ⟨rfl, Below.refl _ _⟩
end Go.Proofs.Ytofbdaicahngfaa
