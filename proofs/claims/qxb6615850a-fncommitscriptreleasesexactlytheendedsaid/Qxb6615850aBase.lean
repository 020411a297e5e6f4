import Derived.Test.Qxb6615850aRows
import Derived.WalkKit
import Derived.WalkSpells
import Derived.WalkLawsBesides
namespace Go.Proofs.Qxb6615850a
open Go.RowKit
set_option linter.unusedVariables false

/-- A slice of ints as a value: where it lies, its length and capacity, and its elements. -/
structure Row where
  a : Option Addr
  len : Nat
  cap : Nat
  zs : List Int

/-- The slice's value. -/
def Row.v (r : Row) : Value := .slice r.a r.len r.cap

/-- WHAT IS KNOWN OF A SLICE OF INTS THAT CAME IN. -/
structure IsRow (w : World) (r : Row) : Prop where
  size : r.zs.length = r.len
  small : r.len ≤ maxLen
  at_ : 0 < r.len → ∃ b o, r.a = some ⟨b, o, Option.none⟩ ∧ b < w.heap.size ∧ ∀ i, i < r.len → w.cell? ⟨b, o + i, Option.none⟩ = some (.int .i64 (r.zs.getD i 0))
  wf : ∀ z ∈ r.zs, (Lit.int .i64 z).wf = true

/-- A slice of slices of ints that came in. -/
structure IsRows (w : World) (a : Option Addr) (k : Nat) (R : Nat → Row) : Prop where
  small : k ≤ maxLen
  at_ : 0 < k → ∃ b o, a = some ⟨b, o, Option.none⟩ ∧ b < w.heap.size ∧ ∀ i, i < k → w.cell? ⟨b, o + i, Option.none⟩ = some (.slice (R i).a (R i).len (R i).cap)
  rows : ∀ i, i < k → IsRow w (R i)

theorem IsRow.below {w w' : World} {r : Row} (h : IsRow w r) (hb : Below w.heap.size w w') : IsRow w' r where
  size := h.size
  small := h.small
  at_ := fun h0 => by
    obtain ⟨b, o, ha, hlt, hc⟩ := h.at_ h0
    exact ⟨b, o, ha, Nat.lt_of_lt_of_le hlt hb.size, fun i hi => by rw [hb.cell (p := ⟨b, o + i, Option.none⟩) hlt]; exact hc i hi⟩
  wf := h.wf

theorem IsRows.below {w w' : World} {a : Option Addr} {k : Nat} {R : Nat → Row} (h : IsRows w a k R) (hb : Below w.heap.size w w') : IsRows w' a k R where
  small := h.small
  at_ := fun h0 => by
    obtain ⟨b, o, ha, hlt, hc⟩ := h.at_ h0
    exact ⟨b, o, ha, Nat.lt_of_lt_of_le hlt hb.size, fun i hi => by rw [hb.cell (p := ⟨b, o + i, Option.none⟩) hlt]; exact hc i hi⟩
  rows := fun i hi => (h.rows i hi).below hb

theorem ret_int {k : IntKind} {a b : Int} (h : a = b) : Ending.returned (.int k a) = .returned (.int k b) := by rw [h]

/-- It hands back a bool. -/
def RetB (e : Ending) : Prop := ∃ x, e = .returned (.bool x)
theorem retB (x : Bool) : RetB (.returned (.bool x)) := ⟨x, rfl⟩

/-- How many elements the rows ahead of the j-th hold. -/
def total (R : Nat → Row) : Nat → Nat
  | 0 => 0
  | j + 1 => total R j + (R j).len

set_option maxHeartbeats 400000 in
theorem bytes6 (ts ws : Row) (a : Option Addr) (k c : Nat) (R : Nat → Row) (t : Int) (w : World) (ht : IsRow w ts) (hw : IsRow w ws) (hR : IsRows w a k R) :
    Calls Try.prog 6 #[.slice ts.a ts.len ts.cap, .slice ws.a ws.len ws.cap, .slice a k c, .int .i64 t] w fun e w' => RetB e ∧ w' = w := by
  have h1 := ht.small
  have h2 := hw.small
  have h3 := hR.small
  unfold maxLen at h1 h2 h3
  go_enter Try.func6, Try.ntmps6
  go_wp2_with fail
  any_goals (go_ret; exact ⟨retB _, rfl⟩)
  go_loop [9, 10] (fun z i => ∃ (j s : Nat), j ≤ k ∧ s ≤ 1048576 ∧ z = .int .i64 s ∧ i = .int .i64 j) (fun _ i => k - (intOf i).toNat)
  case atStart => exact ⟨0, ts.len + ws.len + k, Nat.zero_le _, by omega, by go_num, rfl⟩
  case round =>
    obtain ⟨j, s, hj, hs, rfl, rfl⟩ := hrel
    by_cases hlt : j < k
    · obtain ⟨b, o, rfl, hbl, hc⟩ := hR.at_ (by omega)
      have hcj := hc j hlt
      have hl := (hR.rows j hlt).small
      unfold maxLen at hl
      clear hc
      go_wp2_with fail
      any_goals (go_ret; exact ⟨retB _, rfl⟩)
      go_round
      case rel => exact ⟨j + 1, s + (R j).len, by omega, by omega, by go_num, by go_num⟩
      case measure => simp [intOf]; omega
    · go_wp2_with fail
      all_goals (go_ret; exact ⟨retB _, rfl⟩)

set_option maxHeartbeats 400000 in
theorem bytes12 (ts ws : Row) (a : Option Addr) (k c : Nat) (R : Nat → Row) (t p : Int) (w : World) (ht : IsRow w ts) (hw : IsRow w ws) (hR : IsRows w a k R) :
    Calls Try.prog 12 #[.slice ts.a ts.len ts.cap, .slice ws.a ws.len ws.cap, .slice a k c, .int .i64 t, .int .i64 p] w fun e w' => RetB e ∧ w' = w := by
  have h1 := ht.small
  have h2 := hw.small
  have h3 := hR.small
  unfold maxLen at h1 h2 h3
  go_enter Try.func12, Try.ntmps12
  go_wp2_with fail
  any_goals (go_ret; exact ⟨retB _, rfl⟩)
  go_loop [11, 12] (fun z i => ∃ (j s : Nat), j ≤ k ∧ s ≤ 1048576 ∧ z = .int .i64 s ∧ i = .int .i64 j) (fun _ i => k - (intOf i).toNat)
  case atStart => exact ⟨0, ts.len + ws.len + k, Nat.zero_le _, by omega, by go_num, rfl⟩
  case round =>
    obtain ⟨j, s, hj, hs, rfl, rfl⟩ := hrel
    by_cases hlt : j < k
    · obtain ⟨b, o, rfl, hbl, hc⟩ := hR.at_ (by omega)
      have hcj := hc j hlt
      have hl := (hR.rows j hlt).small
      unfold maxLen at hl
      clear hc
      go_wp2_with fail
      any_goals (go_ret; exact ⟨retB _, rfl⟩)
      go_round
      case rel => exact ⟨j + 1, s + (R j).len, by omega, by omega, by go_num, by go_num⟩
      case measure => simp [intOf]; omega
    · go_wp2_with fail
      all_goals (go_ret; exact ⟨retB _, rfl⟩)

set_option maxHeartbeats 400000 in
theorem bytes14 (ts ws : Row) (a : Option Addr) (k c : Nat) (R : Nat → Row) (os : Row) (p : Int) (w : World) (ht : IsRow w ts) (hw : IsRow w ws) (hR : IsRows w a k R) (ho : IsRow w os) :
    Calls Try.prog 14 #[.slice ts.a ts.len ts.cap, .slice ws.a ws.len ws.cap, .slice a k c, .slice os.a os.len os.cap, .int .i64 p] w fun e w' => RetB e ∧ w' = w := by
  have h1 := ht.small
  have h2 := hw.small
  have h3 := hR.small
  unfold maxLen at h1 h2 h3
  have h4 := ho.small
  unfold maxLen at h4
  go_enter Try.func14, Try.ntmps14
  go_wp2_with fail
  any_goals (go_ret; exact ⟨retB _, rfl⟩)
  go_loop [11, 12] (fun z i => ∃ (j s : Nat), j ≤ k ∧ s ≤ 1048576 ∧ z = .int .i64 s ∧ i = .int .i64 j) (fun _ i => k - (intOf i).toNat)
  case atStart => exact ⟨0, ts.len + ws.len + k, Nat.zero_le _, by omega, by go_num, rfl⟩
  case round =>
    obtain ⟨j, s, hj, hs, rfl, rfl⟩ := hrel
    by_cases hlt : j < k
    · obtain ⟨b, o, rfl, hbl, hc⟩ := hR.at_ (by omega)
      have hcj := hc j hlt
      have hl := (hR.rows j hlt).small
      unfold maxLen at hl
      clear hc
      go_wp2_with fail
      any_goals (go_ret; exact ⟨retB _, rfl⟩)
      go_round
      case rel => exact ⟨j + 1, s + (R j).len, by omega, by omega, by go_num, by go_num⟩
      case measure => simp [intOf]; omega
    · go_wp2_with fail
      all_goals (go_ret; exact ⟨retB _, rfl⟩)


/-- tableTooBig's answer. -/
def Bounds (n k : Nat) (k' : Nat) (R : Nat → Row) : Prop := n ≤ 65536 ∧ k ≤ 65536 ∧ k' ≤ 65536 ∧ total R k' ≤ 131072
def RetSmall (n k k' : Nat) (R : Nat → Row) (e : Ending) : Prop := ∃ x, e = .returned (.bool x) ∧ (x = false → Bounds n k k' R)
theorem retSmall_true {n k k' : Nat} {R : Nat → Row} : RetSmall n k k' R (.returned (.bool true)) := ⟨true, rfl, fun h => by cases h⟩
theorem retSmall_false {n k k' : Nat} {R : Nat → Row} (h : Bounds n k k' R) : RetSmall n k k' R (.returned (.bool false)) := ⟨false, rfl, fun _ => h⟩

set_option maxHeartbeats 400000 in
theorem tooBig (ts ws : Row) (a : Option Addr) (k c : Nat) (R : Nat → Row) (x : Int) (w : World) (ht : IsRow w ts) (hw : IsRow w ws) (hR : IsRows w a k R) (hx0 : 0 ≤ x) (hx1 : x ≤ 9223372036854775807) :
    Calls Try.prog 7 #[.slice ts.a ts.len ts.cap, .slice ws.a ws.len ws.cap, .slice a k c, .int .i64 x] w fun e w' => RetSmall ts.len ws.len k R e ∧ w' = w := by
  have h1 := ht.small
  have h2 := hw.small
  have h3 := hR.small
  unfold maxLen at h1 h2 h3
  go_enter Try.func7, Try.ntmps7
  go_wp2_with fail
  any_goals (go_ret; exact ⟨retSmall_true, rfl⟩)
  go_loop [9, 10] (fun z i => ∃ (j s : Nat), j ≤ k ∧ s ≤ 1048576 ∧ 8 * total R j ≤ s ∧ z = .int .i64 s ∧ i = .int .i64 j) (fun _ i => k - (intOf i).toNat)
  case atStart => exact ⟨0, x.toNat + 8 * ts.len + 8 * ws.len + 8 * k, Nat.zero_le _, by omega, by simp [total], by go_num, rfl⟩
  case round =>
    obtain ⟨j, s, hj, hs, hts, rfl, rfl⟩ := hrel
    by_cases hlt : j < k
    · obtain ⟨b, o, rfl, hbl, hc⟩ := hR.at_ (by omega)
      have hcj := hc j hlt
      have hl := (hR.rows j hlt).small
      unfold maxLen at hl
      clear hc
      go_wp2_with fail
      any_goals (go_ret; exact ⟨retSmall_true, rfl⟩)
      go_round
      case rel => exact ⟨j + 1, s + 8 * (R j).len, by omega, by omega, by simp only [total]; omega, by go_num, by go_num⟩
      case measure => simp [intOf]; omega
    · go_wp2_with fail
      go_ret
      have : j = k := by omega
      subst this
      exact ⟨retSmall_false ⟨by omega, by omega, by omega, by omega⟩, rfl⟩

end Go.Proofs.Qxb6615850a
