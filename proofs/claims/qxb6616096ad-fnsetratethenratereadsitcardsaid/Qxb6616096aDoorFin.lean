import Derived.Test.Qxb6616096aDoorDom
namespace Go.Proofs.Qxb6616096aDoor
open Go.RowKit
set_option linter.unusedVariables false
set_option linter.unusedSimpArgs false
set_option maxRecDepth 100000
open Pl Flt Ieee

/-- Neither NaN nor infinity. -/
def FinW (x : Nat) : Prop := ∃ s m p, double.read x = .number s m p

def RetFin (x : Nat) (e : Ending) : Prop := ∃ b : Bool, e = .returned (.bool b) ∧ (b = true → FinW x)

theorem signed_neg (s : Bool) (m k : Nat) : signed s m k + signed (!s) m k = 0 := by cases s <;> simp [signed] <;> omega

set_option maxHeartbeats 1000000 in
theorem finite_any (x : Nat) (w : World) : Calls Tryd.prog 18 #[.float .f64 x] w fun e w' => RetFin x e ∧ ∃ n, w' = w.drewN n := by
  cases hr : double.read x with
  | nan s c =>
    have k1 : (FloatKind.f64.format.order x x == some .eq) = false := by
      show (double.order x x == some .eq) = false
      unfold Format.order
      rw [hr]; rfl
    go_enter Tryd.func18, Tryd.ntmps18
    go_wp2_with fail
    go_ret
    exact ⟨⟨false, rfl, fun h => by cases h⟩, 0, rfl⟩
  | infinity s =>
    have k1 : (FloatKind.f64.format.order x x == some .eq) = true := by
      show (double.order x x == some .eq) = true
      unfold Format.order
      rw [hr]
      cases s <;> rfl
    have hsn : double.sub x x = Option.none := by
      unfold Format.sub
      rw [hr]
      cases s <;> rfl
    have hs := run_sub_nan 22 x x hsn
    have k2 : ∀ w, (FloatKind.f64.format.order (nanOf x x w) 0 == some .eq) = false := fun w => by
      rw [show FloatKind.f64.format.order (nanOf x x w) 0 = Option.none from order_nanOf _ _ _ _]; rfl
    clear hsn
    go_enter Tryd.func18, Tryd.ntmps18
    go_wp2_with fail
    go_ret
    exact ⟨⟨false, rfl, fun h => by cases h⟩, 1, rfl⟩
  | number s m p =>
    have k1 : (FloatKind.f64.format.order x x == some .eq) = true := by
      show (double.order x x == some .eq) = true
      unfold Format.order
      rw [hr]
      simp only [Datum.order]
      have : ∀ a : Int, compare a a = .eq := fun a => by simp [compare, compareOfLessAndEq]
      rw [this]; rfl
    have hsub : double.sub x x = some 0 := by
      unfold Format.sub
      rw [hr]
      simp only [Datum.opposite, Datum.sum, Option.map_some]
      rw [signed_neg]
      cases s <;> simp [Format.write, Format.nearest, Format.word]
    have hs := fun w => run_float_arith (P := Tryd.prog) w .sub 22 .f64 x x 0 hsub
    have k2 : (FloatKind.f64.format.order 0 0 == some .eq) = true := by
      rw [order_f _ _ (by omega) (by omega), Nat.compare_eq_eq.2 rfl]; rfl
    clear hsub
    go_enter Tryd.func18, Tryd.ntmps18
    go_wp2_with fail
    go_ret
    exact ⟨⟨true, rfl, fun _ => ⟨s, m, p, hr⟩⟩, 0, rfl⟩

/-- What is at least a positive word is one. -/
theorem ge_pos (d c : Nat) (hd : d < 2 ^ 64) (hc0 : 0 < c) (hc : c < 2047 * 2 ^ 52) (h : (double.order d c == some .gt || double.order d c == some .eq) = true) : c ≤ d ∧ d ≤ 2047 * 2 ^ 52 := by
  by_cases h1 : d ≤ 2047 * 2 ^ 52
  · rw [order_pos d c h1 (by omega)] at h
    refine ⟨?_, h1⟩
    apply Nat.le_of_not_lt
    intro hlt
    rw [Nat.compare_eq_lt.2 hlt] at h
    exact absurd h (by decide)
  · exfalso
    revert h
    unfold Format.order
    rw [read_fin c hc]
    generalize hR : double.read d = R
    unfold Format.read at hR
    rw [leastPlace_eq, binade_eq, infRung_eq, signWeight_eq] at hR
    by_cases h3 : d < 2 ^ 63
    · rw [Nat.div_eq_of_lt h3, Nat.mod_eq_of_lt h3] at hR
      simp only [if_neg (show ¬ d < 2 ^ 52 by omega), if_neg (show ¬ d < 2047 * 2 ^ 52 by omega), if_neg (show ¬ d = 2047 * 2 ^ 52 by omega)] at hR
      subst hR
      simp [Datum.order]
    · have e1 : d / 2 ^ 63 = 1 := by omega
      have e2 : d % 2 ^ 63 = d - 2 ^ 63 := by omega
      rw [e1, e2] at hR
      simp only [show ((1 % 2 : Nat) == 1) = true from rfl] at hR
      have neg : ∀ (m : Nat) (p : Int), ¬ ((Datum.order (.number true m p) (.number false (mg c) ((ex c : Int) - 1074)) == some .gt || Datum.order (.number true m p) (.number false (mg c) ((ex c : Int) - 1074)) == some .eq) = true) := by
        intro m p
        simp only [Datum.order, signed_false]
        generalize (p - min p ((ex c : Int) - 1074)).toNat = k
        generalize ((ex c : Int) - 1074 - min p ((ex c : Int) - 1074)).toNat = k'
        have g : 0 < 2 ^ k' := Nat.two_pow_pos k'
        have hs : signed true m k = -((m * 2 ^ k : Nat) : Int) := by simp [signed, shl_eq]
        have hp : 0 < mg c * 2 ^ k' := Nat.mul_pos (mg_pos c hc0) g
        rw [hs]
        have hc : compare (-((m * 2 ^ k : Nat) : Int)) ((mg c * 2 ^ k' : Nat) : Int) = .lt := by
          simp only [compare, compareOfLessAndEq]
          rw [if_pos (by omega)]
        rw [hc]
        decide
      by_cases h4 : d - 2 ^ 63 < 2 ^ 52
      · rw [if_pos h4] at hR; subst hR; exact neg _ _
      · rw [if_neg h4] at hR
        by_cases h5 : d - 2 ^ 63 < 2047 * 2 ^ 52
        · rw [if_pos h5] at hR; subst hR; exact neg _ _
        · rw [if_neg h5] at hR
          by_cases h6 : d - 2 ^ 63 = 2047 * 2 ^ 52
          · rw [if_pos h6] at hR; subst hR; simp [Datum.order]
          · rw [if_neg h6] at hR; subst hR; simp [Datum.order]

theorem fin_lt (x : Nat) (hx : x ≤ 2047 * 2 ^ 52) (h : FinW x) : x < 2047 * 2 ^ 52 := by
  rcases Nat.lt_or_eq_of_le hx with h1 | h1
  · exact h1
  · obtain ⟨s, m, p, hr⟩ := h
    rw [h1, read_inf] at hr
    cases hr

end Go.Proofs.Qxb6616096aDoor
