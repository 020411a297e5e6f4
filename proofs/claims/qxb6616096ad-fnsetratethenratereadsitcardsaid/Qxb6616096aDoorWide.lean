import Derived.Test.Qxb6616096aDoorDiv2
import Derived.Test.Qxb6616096aDoorFits
import Derived.Test.Qxb6616096aDoorAt
import Derived.Below
import Derived.Deep.LoopGhost
import Derived.Deep.DeepCutAuto
import Derived.Deep.RegionHeld3
import Derived.BigQuiet
namespace Go.Proofs.Qxb6616096aDoor
open Go.RowKit
set_option linter.unusedVariables false
set_option linter.unusedSimpArgs false
set_option maxRecDepth 100000

/-- The i-th of three words, 0 outside. -/
def wd (a b c i : Int) : Int := if i = 0 then a else if i = 1 then b else if i = 2 then c else 0

theorem wd_word {a b c : Int} (ha : Word a) (hb : Word b) (hc : Word c) (i : Int) : Word (wd a b c i) := by
  unfold wd; split
  · exact ha
  · split
    · exact hb
    · split
      · exact hc
      · exact ⟨by omega, by omega⟩
theorem wd_zero (i : Int) : wd 0 0 0 i = 0 := by unfold wd; split <;> (try rfl); split <;> (try rfl); split <;> rfl

set_option maxHeartbeats 2000000 in
theorem word_c (a b c i : Int) (w : World) :
    Calls Tryd.prog 69 #[.agg #[.int .u64 a, .int .u64 b, .int .u64 c], .int .i64 i] w fun e w' => e = .returned (.int .u64 (wd a b c i)) ∧ w' = w.alloc (.cells #[.int .u64 a, .int .u64 b, .int .u64 c] 139) := by
  by_cases h0 : i < 0
  · have k0 : decide (i < 0) = true := decide_eq_true h0
    have hv : wd a b c i = 0 := by unfold wd; rw [if_neg (by omega), if_neg (by omega), if_neg (by omega)]
    rw [hv]
    go_enter Tryd.func69, Tryd.ntmps69
    go_wp2_with fail
    go_ret
    exact ⟨rfl, rfl⟩
  have k0 : decide (i < 0) = false := decide_eq_false h0
  by_cases h3 : 3 ≤ i
  · have k3 : decide (3 ≤ i) = true := decide_eq_true h3
    have hv : wd a b c i = 0 := by unfold wd; rw [if_neg (by omega), if_neg (by omega), if_neg (by omega)]
    rw [hv]
    go_enter Tryd.func69, Tryd.ntmps69
    go_wp2_with fail
    go_ret
    exact ⟨rfl, rfl⟩
  have h : i = 0 ∨ i = 1 ∨ i = 2 := by omega
  clear h0 h3 k0
  rcases h with rfl | rfl | rfl
  all_goals
    go_enter Tryd.func69, Tryd.ntmps69
    go_wp2_with fail
    go_ret
    exact ⟨rfl, rfl⟩

/-- Three words; zero where the given ones are. -/
def Like (Z : Prop) (e : Ending) : Prop := ∃ x y z : Int, e = .returned (.agg #[.int .u64 x, .int .u64 y, .int .u64 z]) ∧ Word x ∧ Word y ∧ Word z ∧ (Z → x = 0 ∧ y = 0 ∧ z = 0)

set_option maxHeartbeats 4000000 in
theorem wmul_c (a b c y : Int) (hb : Word b) (hc : Word c) (hy : Word y) (w : World) :
    Calls Tryd.prog 62 #[.agg #[.int .u64 a, .int .u64 b, .int .u64 c], .int .u64 y] w fun e w' => Like (b = 0 ∧ c = 0) e ∧ Below w.heap.size w w' := by
  obtain ⟨bn, rfl⟩ := Int.eq_ofNat_of_zero_le hb.1
  obtain ⟨cn, rfl⟩ := Int.eq_ofNat_of_zero_le hc.1
  obtain ⟨yn, rfl⟩ := Int.eq_ofNat_of_zero_le hy.1
  have hb2 := hb.2; have hc2 := hc.2; have hy2 := hy.2
  have C1 := fun w => Tryd.bits_Mul64 cn yn (by omega) (by omega) w
  have C2 := fun w => Tryd.bits_Mul64 bn yn (by omega) (by omega) w
  have l1 : cn * yn / 18446744073709551616 < 18446744073709551616 := (Nat.div_lt_iff_lt_mul (by omega)).2 (by have := Nat.mul_le_mul (show cn ≤ 18446744073709551615 by omega) (show yn ≤ 18446744073709551615 by omega); omega)
  have l2 : bn * yn / 18446744073709551616 < 18446744073709551616 := (Nat.div_lt_iff_lt_mul (by omega)).2 (by have := Nat.mul_le_mul (show bn ≤ 18446744073709551615 by omega) (show yn ≤ 18446744073709551615 by omega); omega)
  have l3 : cn * yn % 18446744073709551616 < 18446744073709551616 := Nat.mod_lt _ (by omega)
  have l4 : bn * yn % 18446744073709551616 < 18446744073709551616 := Nat.mod_lt _ (by omega)
  obtain ⟨h2, e2⟩ : ∃ x : Int, x = ((cn * yn / 18446744073709551616 : Nat) : Int) := ⟨_, rfl⟩
  obtain ⟨q2, f2⟩ : ∃ x : Int, x = ((cn * yn % 18446744073709551616 : Nat) : Int) := ⟨_, rfl⟩
  obtain ⟨h1, e1⟩ : ∃ x : Int, x = ((bn * yn / 18446744073709551616 : Nat) : Int) := ⟨_, rfl⟩
  obtain ⟨q1, f1⟩ : ∃ x : Int, x = ((bn * yn % 18446744073709551616 : Nat) : Int) := ⟨_, rfl⟩
  rw [← e2, ← f2] at C1
  rw [← e1, ← f1] at C2
  have hadd := add47 q1 h2 0 (by omega) (by omega) (by omega) (by omega)
  obtain ⟨s, es⟩ : ∃ x : Int, x = (q1 + h2 + 0) % 18446744073709551616 := ⟨_, rfl⟩
  obtain ⟨cy, ec⟩ : ∃ x : Int, x = (q1 + h2 + 0) / 18446744073709551616 := ⟨_, rfl⟩
  rw [← es, ← ec] at hadd
  obtain ⟨t, et⟩ : ∃ x : Int, IntKind.u64.wrap (h1 + cy) = x := ⟨_, rfl⟩
  have H1 : Hid (∀ w, Calls Tryd.prog 43 #[.int .u64 (cn : Int), .int .u64 (yn : Int)] w fun e w' => e = .returned (.tuple #[.int .u64 h2, .int .u64 q2]) ∧ w' = w) := C1
  have H2 : Hid (∀ w, Calls Tryd.prog 43 #[.int .u64 (bn : Int), .int .u64 (yn : Int)] w fun e w' => e = .returned (.tuple #[.int .u64 h1, .int .u64 q1]) ∧ w' = w) := C2
  have HR : Hid (Word t ∧ Word s ∧ Word q2 ∧ (((bn : Int) = 0 ∧ (cn : Int) = 0) → t = 0 ∧ s = 0 ∧ q2 = 0)) := by
    have ht : t = (h1 + cy) % 18446744073709551616 := by rw [← et, IntKind.wrap_u64]
    refine ⟨⟨by omega, by omega⟩, ⟨by omega, by omega⟩, ⟨by omega, by omega⟩, ?_⟩
    rintro ⟨z1, z2⟩
    have z1' : bn = 0 := by omega
    have z2' : cn = 0 := by omega
    subst z1' z2'
    simp at e1 e2 f1 f2
    omega
  clear C1 C2 l1 l2 l3 l4 e1 e2 f1 f2 es ec hb hc hy hb2 hc2 hy2
  go_enter Tryd.func62, Tryd.ntmps62
  go_wp2_with fail
  refine (H1.out _).mono ?_
  rintro e w1 ⟨rfl, rfl⟩
  go_wp2_with fail
  refine (H2.out _).mono ?_
  rintro e w1 ⟨rfl, rfl⟩
  go_wp2_with (simp only [hadd])
  simp [bodyPost, results, Tryd.results62, go_sem]
  exact ⟨⟨t, s, q2, rfl, HR.out.1, HR.out.2.1, HR.out.2.2.1, fun z => HR.out.2.2.2 (by omega)⟩, ((Below.refl _ _).alloc (Nat.le_refl _) _).alloc (by simp) _⟩

end Go.Proofs.Qxb6616096aDoor
