/-
  The walks through the helpers of the splice laws: the bounds, the form of the spans, a string compared with bytes.
-/
import Derived.Test.YtmlhjgledpglhaaGsub
import Derived.Outline
namespace Go.Proofs.Ytmlhjgledpglhaa
open Go.RowKit
set_option linter.unusedVariables false

def SomeBool (rs : List ByteArray) (w : World) (e : Ending) (w' : World) : Prop := ∃ b, e = .returned (.bool b) ∧ w = w' ∧ (b = true → ∀ z ∈ rs, z.size ≤ 1048576)
theorem SomeBool.mk {rs : List ByteArray} {w : World} : SomeBool rs w (.returned (.bool false)) w := ⟨false, rfl, rfl, fun h => by cases h⟩
/-- The sizes of strings, together. -/
def szs (rs : List ByteArray) : Nat := (rs.map ByteArray.size).sum
theorem szs_snoc {rs : List ByteArray} {k : Nat} {z : ByteArray} (h : rs[k]? = some z) : szs (rs.take (k + 1)) = szs (rs.take k) + z.size := by
  unfold szs
  rw [take_snoc_some h, List.map_append, List.sum_append]
  simp
theorem szs_le (rs : List ByteArray) : ∀ k, szs (rs.take k) ≤ szs rs := by
  intro k
  have h : szs rs = szs (rs.take k) + szs (rs.drop k) := by
    unfold szs
    rw [← List.sum_append, ← List.map_append, List.take_append_drop]
  omega

set_option maxRecDepth 100000 in
theorem bytes27_c (s : ByteArray) (A1 A2 A3 : Option Addr) (n1 c1 n2 c2 n3 c3 : Nat) (rs : List ByteArray) (w : World) (hs : s.size ≤ 9223372036854775807) (m1 : n1 ≤ 9223372036854775807) (m2 : n2 ≤ 9223372036854775807) (m3 : n3 ≤ 9223372036854775807)
    (h3 : Arg w A3 n3 c3 (rs.map Value.string)) (hz : ∀ z ∈ rs, z.size ≤ maxLen) : Calls Try.prog 27 #[.string s, .slice A1 n1 c1, .slice A2 n2 c2, .slice A3 n3 c3] w (SomeBool rs w) := by
  have H3 := Lib.hid h3
  have HZ := Lib.hid hz
  clear h3 hz
  go_enter Try.func27, Try.ntmps27
  go_wp2
  any_goals (go_ret; exact SomeBool.mk)
  go_loopw [9, 10] (fun t i wr => ∃ k z : Nat, k ≤ n3 ∧ i = .int .i64 k ∧ t = .int .i64 z ∧ z ≤ 1048576 ∧ Hid (∀ j y, j < k → rs[j]? = some y → y.size ≤ 1048576) ∧ wr = w) (fun _ i _ => n3 - (intOf i).toNat)
  case atStart => exact ⟨0, s.size + n1 + n2 + n3, Nat.zero_le _, rfl, by go_num, by omega, Lib.hid (fun j y h _ => absurd h (by omega)), rfl⟩
  case round =>
    obtain ⟨k, z, hk, rfl, rfl, hz, hall, rfl⟩ := hrel
    by_cases hlt : k < n3
    · obtain ⟨x, hx⟩ : ∃ x, rs[k]? = some x := ⟨rs[k]'(by have := H3.out.1; rw [List.length_map] at this; omega), List.getElem?_eq_getElem _⟩
      obtain ⟨b, off, rfl, hb, hc⟩ := H3.out.2.2.2.2 (by omega)
      have ck : wr.cell? ⟨b, off + k, none⟩ = some (.string x) := hc k _ (by rw [List.getElem?_map, hx]; rfl)
      have xs : x.size ≤ 9223372036854775807 := by have := HZ.out x (List.mem_of_getElem? hx); unfold maxLen at this; omega
      have i0 : (0 : Int) ≤ (k : Int) := by omega
      have i1 : (k : Int) < (n3 : Int) := by omega
      have HX := Lib.hid hx
      clear hx hc
      by_cases h1 : x.size ≤ 1048576
      · by_cases h2 : z + x.size ≤ 1048576
        · go_wp2
          go_roundw
          case rel => exact ⟨k + 1, z + x.size, by omega, by go_num, by go_num, h2, Lib.hid (fun j y hj hy => by
            by_cases e : j = k
            · subst e
              rw [HX.out] at hy
              obtain rfl := Option.some.inj hy
              exact h1
            · exact hall.out j y (by omega) hy), by first | rfl | trivial⟩
          case measure => simp [intOf]; omega
        · have h2' : 1048576 < z + x.size := by omega
          clear h2
          go_wp2
          go_ret
          exact SomeBool.mk
      · have h1' : 1048576 < x.size := by omega
        clear h1
        go_wp2
        go_ret
        exact SomeBool.mk
    · obtain rfl : k = n3 := by omega
      have hf : Hid (∀ z ∈ rs, z.size ≤ 1048576) := Lib.hid (fun y hy => by
        obtain ⟨j, hj⟩ := List.mem_iff_getElem?.1 hy
        exact hall.out j y (by have := (List.getElem?_eq_some_iff.1 hj).1; have := H3.out.1; rw [List.length_map] at this; omega) hj)
      go_wp2
      go_ret
      exact ⟨true, rfl, rfl, fun _ => hf.out⟩

set_option maxRecDepth 100000 in
theorem bytes33_c (s : ByteArray) (A1 A2 A3 : Option Addr) (n1 c1 n2 c2 n3 c3 : Nat) (rs : List ByteArray) (w : World) (hs : s.size ≤ 9223372036854775807) (m1 : n1 ≤ 9223372036854775807) (m2 : n2 ≤ 9223372036854775807) (m3 : n3 ≤ 9223372036854775807)
    (h3 : Arg w A3 n3 c3 (rs.map Value.string)) (hz : ∀ z ∈ rs, z.size ≤ maxLen) : Calls Try.prog 33 #[.string s, .slice A1 n1 c1, .slice A2 n2 c2, .slice A3 n3 c3] w (SomeBool rs w) := by
  have H3 := Lib.hid h3
  have HZ := Lib.hid hz
  clear h3 hz
  go_enter Try.func33, Try.ntmps33
  go_wp2
  any_goals (go_ret; exact SomeBool.mk)
  go_loopw [9, 10] (fun t i wr => ∃ k z : Nat, k ≤ n3 ∧ i = .int .i64 k ∧ t = .int .i64 z ∧ z ≤ 1048576 ∧ Hid (∀ j y, j < k → rs[j]? = some y → y.size ≤ 1048576) ∧ wr = w) (fun _ i _ => n3 - (intOf i).toNat)
  case atStart => exact ⟨0, s.size + n1 + n2 + n3, Nat.zero_le _, rfl, by go_num, by omega, Lib.hid (fun j y h _ => absurd h (by omega)), rfl⟩
  case round =>
    obtain ⟨k, z, hk, rfl, rfl, hz, hall, rfl⟩ := hrel
    by_cases hlt : k < n3
    · obtain ⟨x, hx⟩ : ∃ x, rs[k]? = some x := ⟨rs[k]'(by have := H3.out.1; rw [List.length_map] at this; omega), List.getElem?_eq_getElem _⟩
      obtain ⟨b, off, rfl, hb, hc⟩ := H3.out.2.2.2.2 (by omega)
      have ck : wr.cell? ⟨b, off + k, none⟩ = some (.string x) := hc k _ (by rw [List.getElem?_map, hx]; rfl)
      have xs : x.size ≤ 9223372036854775807 := by have := HZ.out x (List.mem_of_getElem? hx); unfold maxLen at this; omega
      have i0 : (0 : Int) ≤ (k : Int) := by omega
      have i1 : (k : Int) < (n3 : Int) := by omega
      have HX := Lib.hid hx
      clear hx hc
      by_cases h1 : x.size ≤ 1048576
      · by_cases h2 : z + x.size ≤ 1048576
        · go_wp2
          go_roundw
          case rel => exact ⟨k + 1, z + x.size, by omega, by go_num, by go_num, h2, Lib.hid (fun j y hj hy => by
            by_cases e : j = k
            · subst e
              rw [HX.out] at hy
              obtain rfl := Option.some.inj hy
              exact h1
            · exact hall.out j y (by omega) hy), by first | rfl | trivial⟩
          case measure => simp [intOf]; omega
        · have h2' : 1048576 < z + x.size := by omega
          clear h2
          go_wp2
          go_ret
          exact SomeBool.mk
      · have h1' : 1048576 < x.size := by omega
        clear h1
        go_wp2
        go_ret
        exact SomeBool.mk
    · obtain rfl : k = n3 := by omega
      have hf : Hid (∀ z ∈ rs, z.size ≤ 1048576) := Lib.hid (fun y hy => by
        obtain ⟨j, hj⟩ := List.mem_iff_getElem?.1 hy
        exact hall.out j y (by have := (List.getElem?_eq_some_iff.1 hj).1; have := H3.out.1; rw [List.length_map] at this; omega) hj)
      go_wp2
      go_ret
      exact ⟨true, rfl, rfl, fun _ => hf.out⟩

def BigPost (s : ByteArray) (n1 n2 n3 : Nat) (rs : List ByteArray) (w : World) (e : Ending) (w' : World) : Prop := ∃ b, e = .returned (.bool b) ∧ w = w' ∧ (b = false → s.size ≤ 65536 ∧ n1 ≤ 4096 ∧ n2 ≤ 4096 ∧ n3 ≤ 4096 ∧ szs rs ≤ 1048576)
theorem BigPost.yes {s : ByteArray} {n1 n2 n3 : Nat} {rs : List ByteArray} {w : World} : BigPost s n1 n2 n3 rs w (.returned (.bool true)) w := ⟨true, rfl, rfl, fun h => by cases h⟩
set_option maxRecDepth 100000 in
theorem big_c (s : ByteArray) (A1 A2 A3 : Option Addr) (n1 c1 n2 c2 n3 c3 : Nat) (rs : List ByteArray) (w : World) (hs : s.size ≤ 9223372036854775807) (m1 : n1 ≤ 9223372036854775807) (m2 : n2 ≤ 9223372036854775807) (m3 : n3 ≤ 9223372036854775807)
    (h3 : Arg w A3 n3 c3 (rs.map Value.string)) (hz : ∀ z ∈ rs, z.size ≤ 1048576) : Calls Try.prog 28 #[.string s, .slice A1 n1 c1, .slice A2 n2 c2, .slice A3 n3 c3] w (BigPost s n1 n2 n3 rs w) := by
  have H3 := Lib.hid h3
  have HZ := Lib.hid hz
  clear h3 hz
  by_cases g0 : s.size ≤ 65536
  · by_cases g1 : n1 ≤ 4096
    · by_cases g2 : n2 ≤ 4096
      · by_cases g3 : n3 ≤ 4096
        · go_enter Try.func28, Try.ntmps28
          go_wp2
          go_loopw [9, 10] (fun t i wr => ∃ k z : Nat, k ≤ n3 ∧ i = .int .i64 k ∧ t = .int .i64 z ∧ z ≤ 1048576 ∧ Hid (szs (rs.take k) ≤ z) ∧ wr = w) (fun _ i _ => n3 - (intOf i).toNat)
          case atStart => exact ⟨0, s.size + 8 * n1 + 8 * n2 + 16 * n3, Nat.zero_le _, rfl, by go_num, by omega, Lib.hid (by simp [szs]), rfl⟩
          case round =>
            obtain ⟨k, z, hk, rfl, rfl, hz, hsz, rfl⟩ := hrel
            by_cases hlt : k < n3
            · obtain ⟨x, hx⟩ : ∃ x, rs[k]? = some x := ⟨rs[k]'(by have := H3.out.1; rw [List.length_map] at this; omega), List.getElem?_eq_getElem _⟩
              obtain ⟨b, off, rfl, hb, hc⟩ := H3.out.2.2.2.2 (by omega)
              have ck : wr.cell? ⟨b, off + k, none⟩ = some (.string x) := hc k _ (by rw [List.getElem?_map, hx]; rfl)
              have xs : x.size ≤ 1048576 := HZ.out x (List.mem_of_getElem? hx)
              have HS := Lib.hid (szs_snoc hx)
              have i0 : (0 : Int) ≤ (k : Int) := by omega
              have i1 : (k : Int) < (n3 : Int) := by omega
              clear hx hc
              by_cases h2 : z + x.size ≤ 1048576
              · go_wp2
                go_roundw
                case rel => exact ⟨k + 1, z + x.size, by omega, by go_num, by go_num, h2, Lib.hid (by have := hsz.out; have := HS.out; omega), by first | rfl | trivial⟩
                case measure => simp [intOf]; omega
              · have h2' : 1048576 < z + x.size := by omega
                clear h2
                go_wp2
                go_ret
                exact BigPost.yes
            · obtain rfl : k = n3 := by omega
              have hf : Hid (szs rs ≤ 1048576) := Lib.hid (by have := hsz.out; rw [List.take_of_length_le (by have := H3.out.1; rw [List.length_map] at this; omega)] at this; omega)
              go_wp2
              go_ret
              exact ⟨_, rfl, rfl, fun _ => ⟨g0, g1, g2, g3, hf.out⟩⟩
        · have g3' : 4096 < n3 := by omega
          clear g3
          go_enter Try.func28, Try.ntmps28
          go_wp2
          go_ret
          exact BigPost.yes
      · have g2' : 4096 < n2 := by omega
        clear g2
        go_enter Try.func28, Try.ntmps28
        go_wp2
        go_ret
        exact BigPost.yes
    · have g1' : 4096 < n1 := by omega
      clear g1
      go_enter Try.func28, Try.ntmps28
      go_wp2
      go_ret
      exact BigPost.yes
  · have g0' : 65536 < s.size := by omega
    clear g0
    go_enter Try.func28, Try.ntmps28
    go_wp2
    go_ret
    exact BigPost.yes

def pvE (es : List Int) (k : Nat) : Int := if k = 0 then 0 else es.getD (k - 1) 0
theorem pvE_succ {es : List Int} {k : Nat} {e : Int} (h : es[k]? = some e) : pvE es (k + 1) = e := by
  unfold pvE
  rw [if_neg (by omega), Nat.add_sub_cancel, List.getD_eq_getElem?_getD, h]
  rfl
/-- The spans are in order, apart, and within m. -/
def okE (m : Nat) (ss es : List Int) (i : Nat) : Prop := ∀ a b, ss[i]? = some a → es[i]? = some b → pvE es i ≤ a ∧ a ≤ b ∧ b ≤ (m : Int)
def FormPost (s : ByteArray) (n1 n2 n3 : Nat) (ss es : List Int) (w : World) (e : Ending) (w' : World) : Prop := ∃ b, e = .returned (.bool b) ∧ (∃ q, w.drewN q = w') ∧ (b = true → n1 = n2 ∧ n1 = n3 ∧ ∀ i, i < n1 → okE s.size ss es i)
theorem FormPost.no {s : ByteArray} {n1 n2 n3 : Nat} {ss es : List Int} {w : World} (q : Nat) : FormPost s n1 n2 n3 ss es w (.returned (.bool false)) (w.drewN q) := ⟨false, rfl, ⟨q, rfl⟩, fun h => by cases h⟩
theorem FormPost.no2 {s : ByteArray} {n1 n2 n3 : Nat} {ss es : List Int} {w : World} (q p : Nat) : FormPost s n1 n2 n3 ss es w (.returned (.bool false)) ((w.drewN q).drewN p) := ⟨false, rfl, ⟨q + p, by rw [World.drewN_drewN]⟩, fun h => by cases h⟩
set_option maxHeartbeats 1000000 in
set_option maxRecDepth 100000 in
theorem form_c (s : ByteArray) (A1 A2 A3 : Option Addr) (n1 c1 n2 c2 n3 c3 : Nat) (ss es : List Int) (w : World) (hs : s.size ≤ 65536) (m1 : n1 ≤ 4096) (m2 : n2 ≤ 4096) (m3 : n3 ≤ 4096)
    (h1 : Arg w A1 n1 c1 (ss.map (Value.int .i64))) (h2 : Arg w A2 n2 c2 (es.map (Value.int .i64))) : Calls Try.prog 29 #[.string s, .slice A1 n1 c1, .slice A2 n2 c2, .slice A3 n3 c3] w (FormPost s n1 n2 n3 ss es w) := by
  have H1 := Lib.hid h1
  have H2 := Lib.hid h2
  clear h1 h2
  by_cases g0 : n1 = n2
  · by_cases g1 : n1 = n3
    · subst g0 g1
      have e1 : ((n1 : Int) == (n1 : Int)) = true := by simp
      go_enter Try.func29, Try.ntmps29
      go_wp2
      go_loopw [9, 10] (fun t i wr => ∃ (k q : Nat) (pv : Int), k ≤ n1 ∧ i = .int .i64 k ∧ t = .int .i64 pv ∧ Hid (pv = pvE es k) ∧ Hid (∀ j, j < k → okE s.size ss es j) ∧ wr = w.drewN q) (fun _ i _ => n1 - (intOf i).toNat)
      case atStart => exact ⟨0, 0, 0, Nat.zero_le _, rfl, rfl, Lib.hid rfl, Lib.hid (fun j h => absurd h (by omega)), rfl⟩
      case round =>
        obtain ⟨k, q, pv, hk, rfl, rfl, hpv, hok, rfl⟩ := hrel
        by_cases hlt : k < n1
        · obtain ⟨a, ha⟩ : ∃ a, ss[k]? = some a := ⟨ss[k]'(by have := H1.out.1; rw [List.length_map] at this; omega), List.getElem?_eq_getElem _⟩
          obtain ⟨b, hb⟩ : ∃ b, es[k]? = some b := ⟨es[k]'(by have := H2.out.1; rw [List.length_map] at this; omega), List.getElem?_eq_getElem _⟩
          obtain ⟨b1, o1, rfl, _, hc1⟩ := H1.out.2.2.2.2 (by omega)
          obtain ⟨b2, o2, rfl, _, hc2⟩ := H2.out.2.2.2.2 (by omega)
          have ck1 : w.cell? ⟨b1, o1 + k, none⟩ = some (.int .i64 a) := hc1 k _ (by rw [List.getElem?_map, ha]; rfl)
          have ck2 : w.cell? ⟨b2, o2 + k, none⟩ = some (.int .i64 b) := hc2 k _ (by rw [List.getElem?_map, hb]; rfl)
          have HA := Lib.hid ha
          have HB := Lib.hid hb
          have i0 : (0 : Int) ≤ (k : Int) := by omega
          have i1 : (k : Int) < (n1 : Int) := by omega
          clear ha hb hc1 hc2
          by_cases d1 : a < pv
          · have t1 : decide (a < pv) = true := by simpa using d1
            go_wp2_with fail
            go_quiet (fail)
            go_wp2_with fail
            go_ret
            exact FormPost.no2 _ _
          · have t1 : decide (a < pv) = false := by simpa using d1
            by_cases d2 : b < a
            · have t2 : decide (b < a) = true := by simpa using d2
              go_wp2_with fail
              go_quiet (fail)
              go_wp2_with fail
              go_ret
              exact FormPost.no2 _ _
            · have t2 : decide (b < a) = false := by simpa using d2
              by_cases d3 : (s.size : Int) < b
              · have t3 : decide ((s.size : Int) < b) = true := by simpa using d3
                go_wp2_with fail
                go_quiet (fail)
                go_wp2_with fail
                go_ret
                exact FormPost.no2 _ _
              · have t3 : decide ((s.size : Int) < b) = false := by simpa using d3
                go_wp2_with fail
                go_quiet (fail)
                go_wp2_with fail
                go_roundw
                case rel => exact ⟨k + 1, _, b, by omega, by go_num, rfl, Lib.hid (pvE_succ HB.out).symm, Lib.hid (fun j hj => by
                  by_cases e : j = k
                  · subst e
                    intro x y hx hy
                    rw [HA.out] at hx
                    rw [HB.out] at hy
                    obtain rfl := Option.some.inj hx
                    obtain rfl := Option.some.inj hy
                    have := hpv.out
                    omega
                  · exact hok.out j (by omega)), rfl⟩
                case measure => simp [intOf]; omega
        · obtain rfl : k = n1 := by omega
          go_wp2_with fail
          go_ret
          exact ⟨true, rfl, ⟨q, rfl⟩, fun _ => ⟨rfl, rfl, hok.out⟩⟩
    · subst g0
      have e1 : ((n1 : Int) == (n1 : Int)) = true := by simp
      have e2 : ((n1 : Int) == (n3 : Int)) = false := by simp <;> omega
      go_enter Try.func29, Try.ntmps29
      go_wp2
      go_ret
      exact FormPost.no 0
  · have e1 : ((n1 : Int) == (n2 : Int)) = false := by simp <;> omega
    go_enter Try.func29, Try.ntmps29
    go_wp2
    go_ret
    exact FormPost.no 0

theorem eqStr_c (g : ByteArray) (A : Option Addr) (n c : Nat) (w : World) (hg : g.size ≤ 4194304) (ha : Arg w A n c (u8s (bs g))) : Calls Try.prog 32 #[.string g, .slice A n c] w fun e w' => e = .returned (.bool true) ∧ ∃ q, w.drewN q = w' := by
  obtain rfl : n = g.size := by have := ha.1; rw [u8s_len, bs_length] at this; exact this.symm
  have HA := Lib.hid ha
  clear ha
  have e1 : ((g.size : Int) == (g.size : Int)) = true := by simp
  go_enter Try.func32, Try.ntmps32
  go_wp2
  clear e1
  go_loopw [5] (fun i wr => ∃ k q : Nat, k ≤ g.size ∧ i = .int .i64 k ∧ wr = w.drewN q) (fun i _ => g.size - (intOf i).toNat)
  case atStart => exact ⟨0, 0, Nat.zero_le _, rfl, rfl⟩
  case round =>
    obtain ⟨k, q, hk, rfl, rfl⟩ := hrel
    by_cases hlt : k < g.size
    · obtain ⟨z, hz, _⟩ := bs_some (s := g) (k := k) hlt
      have X1 := run_at hz
      obtain ⟨b, o, rfl, _, hc⟩ := HA.out.2.2.2.2 (by omega)
      have ck : w.cell? ⟨b, o + k, none⟩ = some (.int .u8 (z : Int)) := hc k _ (by unfold u8s; rw [List.getElem?_map, hz]; rfl)
      have e2 : ((z : Int) == (z : Int)) = true := by simp
      have i0 : (0 : Int) ≤ (k : Int) := by omega
      have i1 : (k : Int) < (g.size : Int) := by omega
      clear hz hc
      go_wp2_with fail
      go_quiet (fail)
      go_wp2_with fail
      go_roundw
      case rel => exact ⟨k + 1, _, by omega, by go_num, rfl⟩
      case measure => simp [intOf]; omega
    · have hk' : k = g.size := by omega
      subst hk'
      go_wp2_with fail
      go_ret
      exact ⟨rfl, _, rfl⟩
end Go.Proofs.Ytmlhjgledpglhaa
