import Derived.Test.Qxb6616096aDoorCmp2
namespace Go.Proofs.Qxb6616096aDoor
open Go.RowKit
set_option linter.unusedVariables false
set_option linter.unusedSimpArgs false
set_option maxRecDepth 100000
open Pl Flt Ieee

/-- A call of shlFits, its answer named. -/
def ShlC (h l s a b : Int) (ok : Bool) : Prop := ∀ w, Calls Tryd.prog 28 #[.int .u64 h, .int .u64 l, .int .i64 s] w fun e w' => e = .returned (.tuple #[.int .u64 a, .int .u64 b, .bool ok]) ∧ w = w'

theorem shlC (h l s : Nat) (hh : h < 2 ^ 64) (hl : l < 2 ^ 64) (hs : s < 9223372036854775807) :
    ((h * 2 ^ 64 + l) * 2 ^ s < 2 ^ 128 ∧ ShlC h l s (((h * 2 ^ 64 + l) * 2 ^ s / 2 ^ 64 : Nat) : Int) (((h * 2 ^ 64 + l) * 2 ^ s % 2 ^ 64 : Nat) : Int) true) ∨
    (¬ (h * 2 ^ 64 + l) * 2 ^ s < 2 ^ 128 ∧ ShlC h l s 0 0 false) := by
  by_cases hf : (h * 2 ^ 64 + l) * 2 ^ s < 2 ^ 128
  · refine .inl ⟨hf, fun w => ?_⟩
    refine (shlFits_c h l s hh hl hs w).mono ?_
    rintro e w' ⟨⟨_, rfl⟩ | ⟨h1, rfl⟩, rfl⟩
    · exact ⟨rfl, rfl⟩
    · exact absurd hf h1
  · refine .inr ⟨hf, fun w => ?_⟩
    refine (shlFits_c h l s hh hl hs w).mono ?_
    rintro e w' ⟨⟨h1, rfl⟩ | ⟨_, rfl⟩, rfl⟩
    · exact absurd h1 hf
    · exact ⟨rfl, rfl⟩

set_option maxHeartbeats 2000000 in
theorem scaled_up (lh ll rh rl d a b r : Int) (hd : decide (0 ≤ d) = true) (c28 : Hid (ShlC lh ll d a b true))
    (c51 : Hid (∀ w, Calls Tryd.prog 51 #[.int .u64 a, .int .u64 b, .int .u64 rh, .int .u64 rl] w fun e w' => e = .returned (.int .i64 r) ∧ w = w')) (w : World) :
    Calls Tryd.prog 38 #[.int .u64 lh, .int .u64 ll, .int .u64 rh, .int .u64 rl, .int .i64 d] w fun e w' => e = .returned (.int .i64 r) ∧ w = w' := by
  go_enter Tryd.func38, Tryd.ntmps38
  go_wp2_with fail
  refine (c28.out _).mono ?_
  rintro e w1 ⟨rfl, rfl⟩
  go_wp2_with fail
  refine (c51.out _).mono ?_
  rintro e w1 ⟨rfl, rfl⟩
  go_wp2_with fail
  go_ret
  exact ⟨rfl, rfl⟩

set_option maxHeartbeats 2000000 in
theorem scaled_up0 (lh ll rh rl d a b : Int) (hd : decide (0 ≤ d) = true) (c28 : Hid (ShlC lh ll d a b false)) (w : World) :
    Calls Tryd.prog 38 #[.int .u64 lh, .int .u64 ll, .int .u64 rh, .int .u64 rl, .int .i64 d] w fun e w' => e = .returned (.int .i64 1) ∧ w = w' := by
  go_enter Tryd.func38, Tryd.ntmps38
  go_wp2_with fail
  refine (c28.out _).mono ?_
  rintro e w1 ⟨rfl, rfl⟩
  go_wp2_with fail
  go_ret
  exact ⟨rfl, rfl⟩

set_option maxHeartbeats 2000000 in
theorem scaled_dn (lh ll rh rl d nd a b r : Int) (hd : decide (0 ≤ d) = false) (hn : IntKind.i64.wrap (-d) = nd) (c28 : Hid (ShlC rh rl nd a b true))
    (c51 : Hid (∀ w, Calls Tryd.prog 51 #[.int .u64 lh, .int .u64 ll, .int .u64 a, .int .u64 b] w fun e w' => e = .returned (.int .i64 r) ∧ w = w')) (w : World) :
    Calls Tryd.prog 38 #[.int .u64 lh, .int .u64 ll, .int .u64 rh, .int .u64 rl, .int .i64 d] w fun e w' => e = .returned (.int .i64 r) ∧ w = w' := by
  go_enter Tryd.func38, Tryd.ntmps38
  go_wp2_with fail
  refine (c28.out _).mono ?_
  rintro e w1 ⟨rfl, rfl⟩
  go_wp2_with fail
  refine (c51.out _).mono ?_
  rintro e w1 ⟨rfl, rfl⟩
  go_wp2_with fail
  go_ret
  exact ⟨rfl, rfl⟩

set_option maxHeartbeats 2000000 in
theorem scaled_dn0 (lh ll rh rl d nd a b : Int) (hd : decide (0 ≤ d) = false) (hn : IntKind.i64.wrap (-d) = nd) (c28 : Hid (ShlC rh rl nd a b false)) (w : World) :
    Calls Tryd.prog 38 #[.int .u64 lh, .int .u64 ll, .int .u64 rh, .int .u64 rl, .int .i64 d] w fun e w' => e = .returned (.int .i64 (-1)) ∧ w = w' := by
  go_enter Tryd.func38, Tryd.ntmps38
  go_wp2_with fail
  refine (c28.out _).mono ?_
  rintro e w1 ⟨rfl, rfl⟩
  go_wp2_with fail
  go_ret
  exact ⟨rfl, rfl⟩

theorem sgn_gt {A B : Nat} (h : B < A) : sgn A B = 1 := by unfold sgn; rw [if_neg (by omega), if_neg (by omega)]
theorem sgn_lt {A B : Nat} (h : A < B) : sgn A B = -1 := by unfold sgn; rw [if_pos h]
theorem sgn_ge {A B : Nat} : (0 ≤ sgn A B) ↔ B ≤ A := by
  unfold sgn
  by_cases h : A < B
  · rw [if_pos h]; omega
  · rw [if_neg h]
    by_cases h2 : A = B
    · rw [if_pos h2]; omega
    · rw [if_neg h2]; omega

theorem scaled_c (L R : Nat) (d : Int) (hL : L < 2 ^ 128) (hR : R < 2 ^ 128) (hd1 : -9223372036854775807 < d) (hd2 : d < 9223372036854775807) (w : World) :
    Calls Tryd.prog 38 #[.int .u64 ((L / 2 ^ 64 : Nat) : Int), .int .u64 ((L % 2 ^ 64 : Nat) : Int), .int .u64 ((R / 2 ^ 64 : Nat) : Int), .int .u64 ((R % 2 ^ 64 : Nat) : Int), .int .i64 d] w
      fun e w' => e = .returned (.int .i64 (sgn (L * 2 ^ d.toNat) (R * 2 ^ (-d).toNat))) ∧ w = w' := by
  have lw := words_of L
  have rw' := words_of R
  have hLh : L / 2 ^ 64 < 2 ^ 64 := by omega
  have hRh : R / 2 ^ 64 < 2 ^ 64 := by omega
  by_cases h0 : 0 ≤ d
  · obtain ⟨s, hs⟩ : ∃ s, s = d.toNat := ⟨_, rfl⟩
    have hds : d = (s : Int) := by omega
    rw [show (-d).toNat = 0 from by omega, Nat.pow_zero, Nat.mul_one, ← hs]
    have c := shlC (L / 2 ^ 64) (L % 2 ^ 64) s hLh (lt_mod _) (by omega)
    rw [lw] at c
    rcases c with ⟨h1, c⟩ | ⟨h1, c⟩
    · obtain ⟨X, hX⟩ : ∃ X, X = L * 2 ^ s := ⟨_, rfl⟩
      rw [← hX] at h1 c ⊢
      have c2 := cmp128_c (X / 2 ^ 64) (X % 2 ^ 64) (R / 2 ^ 64) (R % 2 ^ 64) (lt_mod _) (lt_mod _)
      rw [words_of X, rw'] at c2
      rw [hds]
      exact scaled_up _ _ _ _ _ _ _ _ (decide_eq_true (by omega)) c c2 w
    · rw [sgn_gt (by omega), hds]
      exact scaled_up0 _ _ _ _ _ _ _ (decide_eq_true (by omega)) c w
  · obtain ⟨s, hs⟩ : ∃ s, s = (-d).toNat := ⟨_, rfl⟩
    have hds : IntKind.i64.wrap (-d) = (s : Int) := by rw [IntKind.wrap_i64]; omega
    rw [show d.toNat = 0 from by omega, Nat.pow_zero, Nat.mul_one, ← hs]
    have c := shlC (R / 2 ^ 64) (R % 2 ^ 64) s hRh (lt_mod _) (by omega)
    rw [rw'] at c
    rcases c with ⟨h1, c⟩ | ⟨h1, c⟩
    · obtain ⟨X, hX⟩ : ∃ X, X = R * 2 ^ s := ⟨_, rfl⟩
      rw [← hX] at h1 c ⊢
      have c2 := cmp128_c (L / 2 ^ 64) (L % 2 ^ 64) (X / 2 ^ 64) (X % 2 ^ 64) (lt_mod _) (lt_mod _)
      rw [words_of X, lw] at c2
      exact scaled_dn _ _ _ _ _ _ _ _ _ (decide_eq_false h0) hds c c2 w
    · rw [sgn_lt (by omega)]
      exact scaled_dn0 _ _ _ _ _ _ _ _ (decide_eq_false h0) hds c w

set_option maxHeartbeats 2000000 in
theorem fillsBy_w (n m e b p f lh ll rh rl d r : Int) (x : Bool) (c1 : Hid (Two 37 #[.int .u64 n, .int .u64 m] lh ll)) (c2 : Hid (Two 37 #[.int .u64 b, .int .u64 p] rh rl)) (hd : IntKind.i64.wrap (e - f) = d)
    (c3 : Hid (∀ w, Calls Tryd.prog 38 #[.int .u64 lh, .int .u64 ll, .int .u64 rh, .int .u64 rl, .int .i64 d] w fun e w' => e = .returned (.int .i64 r) ∧ w = w')) (hx : decide (0 ≤ r) = x) (w : World) :
    Calls Tryd.prog 29 #[.int .u64 n, .int .u64 m, .int .i64 e, .int .u64 b, .int .u64 p, .int .i64 f] w fun e' w' => e' = .returned (.bool x) ∧ w = w' := by
  go_enter Tryd.func29, Tryd.ntmps29
  go_wp2_with fail
  refine (c1.out _).mono ?_
  rintro e w1 ⟨rfl, rfl⟩
  go_wp2_with fail
  refine (c2.out _).mono ?_
  rintro e w1 ⟨rfl, rfl⟩
  go_wp2_with fail
  refine (c3.out _).mono ?_
  rintro e w1 ⟨rfl, rfl⟩
  go_wp2_with fail
  go_ret
  refine ⟨?_, rfl⟩
  first | rfl | (rw [← hx]; rfl)

theorem prod_lt (a b : Nat) (ha : a < 2 ^ 64) (hb : b < 2 ^ 64) : a * b < 2 ^ 128 := by
  have h1 : a * b ≤ (2 ^ 64 - 1) * (2 ^ 64 - 1) := Nat.mul_le_mul (by omega) (by omega)
  exact Nat.lt_of_le_of_lt h1 (by decide)

theorem fillsBy_c (n m b p : Nat) (e f d : Int) (hn : n < 2 ^ 64) (hm : m < 2 ^ 64) (hb : b < 2 ^ 64) (hp : p < 2 ^ 64) (hd : d = e - f) (hd1 : -9223372036854775807 < d) (hd2 : d < 9223372036854775807) (w : World) :
    Calls Tryd.prog 29 #[.int .u64 (n : Int), .int .u64 (m : Int), .int .i64 e, .int .u64 (b : Int), .int .u64 (p : Int), .int .i64 f] w fun e' w' => e' = .returned (.bool (decide (b * p * 2 ^ (-d).toNat ≤ n * m * 2 ^ d.toNat))) ∧ w = w' := by
  refine fillsBy_w _ _ _ _ _ _ _ _ _ _ d _ _ (fun w => mul128_c n m hn hm w) (fun w => mul128_c b p hb hp w) (by rw [IntKind.wrap_i64]; omega) (fun w => scaled_c (n * m) (b * p) d (prod_lt n m hn hm) (prod_lt b p hb hp) hd1 hd2 w) ?_ w
  exact decide_eq_decide.2 sgn_ge

end Go.Proofs.Qxb6616096aDoor
