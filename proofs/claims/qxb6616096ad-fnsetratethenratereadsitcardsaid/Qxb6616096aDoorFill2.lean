import Derived.Test.Qxb6616096aDoorFill
namespace Go.Proofs.Qxb6616096aDoor
open Go.RowKit
set_option linter.unusedVariables false
set_option linter.unusedSimpArgs false
set_option maxRecDepth 100000

namespace Pl
/-- A quotient rounded up. -/
def cdiv (a b : Nat) : Nat := (a + b - 1) / b

theorem cdiv_le (a b n : Nat) (hb : 0 < b) : cdiv a b ≤ n ↔ a ≤ n * b := by
  unfold cdiv
  rw [← Nat.lt_succ_iff, Nat.div_lt_iff_lt_mul hb, Nat.succ_mul]
  omega

theorem cdiv_eq (a b : Nat) (hb : 0 < b) : cdiv a b = a / b + (if a % b = 0 then 0 else 1) := by
  have e := Nat.div_add_mod a b
  have hm := Nat.mod_lt a hb
  have e2 : b * (a / b) = a / b * b := Nat.mul_comm _ _
  apply Nat.le_antisymm
  · rw [cdiv_le _ _ _ hb, Nat.add_mul]
    generalize a / b * b = P at *
    split <;> simp <;> omega
  · apply Nat.le_of_not_lt
    intro h
    have h' : cdiv a b ≤ a / b + (if a % b = 0 then 0 else 1) - 1 := by omega
    rw [cdiv_le _ _ _ hb] at h'
    split at h'
    · rename_i h0
      rw [Nat.add_zero] at h'
      rcases Nat.eq_zero_or_pos (a / b) with hz | hz
      · rw [hz] at h
        simp [h0] at h
      · have : a / b * b = (a / b - 1) * b + b := by
          conv => lhs; rw [show a / b = (a / b - 1) + 1 from by omega]
          rw [Nat.add_mul, Nat.one_mul]
        omega
    · rw [Nat.add_sub_cancel] at h'
      omega

theorem cdiv_cdiv (N A m : Nat) (hA : 0 < A) (hm : 0 < m) : cdiv (cdiv N A) m = cdiv N (m * A) := by
  have key : ∀ n, cdiv (cdiv N A) m ≤ n ↔ cdiv N (m * A) ≤ n := by
    intro n
    rw [cdiv_le _ _ _ hm, cdiv_le _ _ _ hA, cdiv_le _ _ _ (Nat.mul_pos hm hA), Nat.mul_assoc]
  exact Nat.le_antisymm ((key _).2 (Nat.le_refl _)) ((key _).1 (Nat.le_refl _))

/-- The fewest nanoseconds in which a rate of 'm * 2 ^ e' tokens every 'o' nanoseconds gives 'b' tokens; the greatest word where that is more. -/
def fillOf (b o m : Nat) (e : Int) : Nat := min (cdiv (b * o * 2 ^ (-e).toNat) (m * 2 ^ e.toNat)) 18446744073709551615
end Pl
open Pl

theorem words_of (X : Nat) : X / 2 ^ 64 * 2 ^ 64 + X % 2 ^ 64 = X := by omega
theorem succ_lo (X : Nat) : (((X % 2 ^ 64 : Nat) : Int) + 1 + 0) % 18446744073709551616 = (((X + 1) % 2 ^ 64 : Nat) : Int) := by omega
theorem succ_cy (X : Nat) : (((X % 2 ^ 64 : Nat) : Int) + 1 + 0) / 18446744073709551616 = (((X % 2 ^ 64 + 1) / 2 ^ 64 : Nat) : Int) := by omega

theorem tail_c (m hi lo : Nat) (hm : 0 < m) (hm' : m < 2 ^ 64) (hlo : lo < 2 ^ 64) : TailW (m : Int) (hi : Int) (lo : Int) ((min (cdiv (hi * 2 ^ 64 + lo) m) 18446744073709551615 : Nat) : Int) := by
  by_cases h : m ≤ hi
  · refine .inl ⟨decide_eq_true (by omega), ?_⟩
    have h1 : m * 2 ^ 64 ≤ hi * 2 ^ 64 := Nat.mul_le_mul_right _ h
    have : ¬ cdiv (hi * 2 ^ 64 + lo) m ≤ 18446744073709551615 := by
      rw [cdiv_le _ _ _ hm]
      omega
    rw [Nat.min_eq_right (by omega)]
    rfl
  · obtain ⟨X, hX⟩ : ∃ X, X = hi * 2 ^ 64 + lo := ⟨_, rfl⟩
    have c := div64_c hi lo m (by omega) hm' hlo
    have hq : X / m < 2 ^ 64 := (Nat.div_lt_iff_lt_mul hm).2 (by omega)
    rw [← hX] at c ⊢
    rw [cdiv_eq X m hm]
    refine .inr ⟨((X / m : Nat) : Int), ((X % m : Nat) : Int), decide_eq_false (by omega), c, ?_⟩
    by_cases hr : X % m = 0
    · refine .inl ⟨by rw [hr]; rfl, ?_⟩
      rw [if_pos hr, Nat.add_zero, Nat.min_eq_left (by omega)]
    · rw [if_neg hr]
      have hr' : ((((X % m : Nat) : Int)) != 0) = true := by rw [bne_iff_ne]; omega
      by_cases hq2 : X / m < 18446744073709551615
      · refine .inr (.inr ⟨hr', decide_eq_true (by omega), ?_⟩)
        rw [Nat.min_eq_left (by omega), IntKind.wrap_u64]
        generalize X / m = Q at *
        omega
      · refine .inr (.inl ⟨hr', decide_eq_false (by omega), ?_⟩)
        generalize X / m = Q at *
        omega

theorem two43 (b o H L : Nat) (hb : b < 2 ^ 64) (ho : o < 2 ^ 64) (hH : H = b * o / 2 ^ 64) (hL : L = b * o % 2 ^ 64) : Two 43 #[.int .u64 (b : Int), .int .u64 (o : Int)] (H : Int) (L : Int) := by
  intro w
  refine (Tryd.bits_Mul64 b o hb ho w).mono ?_
  rintro e w' ⟨rfl, rfl⟩
  subst hH hL
  exact ⟨rfl, rfl⟩

theorem fillTime_c (m o b : Nat) (e d f : Int) (hm : 0 < m) (hm' : m < 2 ^ 64) (ho : o < 2 ^ 64) (hb : b < 2 ^ 64) (he1 : -9223372036854775808 < e) (he2 : e ≤ 9223372036854775807) (w : World) :
    Calls Tryd.prog 33 #[.agg #[.int .u64 (m : Int), .int .u64 (o : Int), .int .i64 e, .int .u64 d, .int .u64 f], .int .u64 (b : Int)] w fun e' w' => e' = .returned (.int .u64 ((fillOf b o m e : Nat) : Int)) ∧ ∃ n, w' = (w.alloc (.cells (rateCells m o e d f) 54)).drewN n := by
  obtain ⟨N, hN⟩ : ∃ N, N = b * o := ⟨_, rfl⟩
  obtain ⟨H, hH⟩ : ∃ H, H = N / 2 ^ 64 := ⟨_, rfl⟩
  obtain ⟨L, hL⟩ : ∃ L, L = N % 2 ^ 64 := ⟨_, rfl⟩
  have hN128 : N < 2 ^ 128 := by
    have h1 : b * o ≤ (2 ^ 64 - 1) * (2 ^ 64 - 1) := Nat.mul_le_mul (by omega) (by omega)
    rw [hN]
    exact Nat.lt_of_le_of_lt h1 (by decide)
  have hHL : H * 2 ^ 64 + L = N := by omega
  have hH64 : H < 2 ^ 64 := by omega
  have hL64 : L < 2 ^ 64 := by omega
  have c43 := two43 b o H L hb ho (by rw [hH, hN]) (by rw [hL, hN])
  unfold fillOf
  rw [← hN]
  by_cases h0 : e < 0
  · obtain ⟨s, hs⟩ : ∃ s, s = (-e).toNat := ⟨_, rfl⟩
    rw [← hs, show e.toNat = 0 from by omega, Nat.pow_zero, Nat.mul_one]
    have hs64 : s < 2 ^ 64 := by omega
    have c44 := shl128Fits_c H L s _ _ hH64 hL64 hs64 rfl rfl
    rw [hHL] at c44
    have w1 : IntKind.i64.wrap (-e) = (s : Int) := by rw [IntKind.wrap_i64]; omega
    have w2 : IntKind.u64.wrap (s : Int) = (s : Int) := by rw [IntKind.wrap_u64]; omega
    by_cases hf : N * 2 ^ s < 2 ^ 128
    · rw [decide_eq_true hf] at c44
      have ht := tail_c m (N * 2 ^ s / 2 ^ 64 % 2 ^ 64) (N * 2 ^ s % 2 ^ 64) hm hm' (lt_mod _)
      rw [← two_words, Nat.mod_eq_of_lt hf] at ht
      exact fill_fit m o e d f b H L s _ _ _ (decide_eq_true h0) w1 w2 c43 c44 ht w
    · rw [decide_eq_false hf] at c44
      have : ¬ cdiv (N * 2 ^ s) m ≤ 18446744073709551615 := by
        rw [cdiv_le _ _ _ hm]
        have h2 : 18446744073709551615 * m ≤ 18446744073709551615 * 18446744073709551616 := Nat.mul_le_mul_left _ (by omega)
        have h3 : (2 : Nat) ^ 128 = 340282366920938463463374607431768211456 := by decide
        rw [h3] at hf
        omega
      rw [Nat.min_eq_right (by omega)]
      exact fill_nofit m o e d f b H L s _ _ (decide_eq_true h0) w1 w2 c43 c44 w
  · obtain ⟨s, hs⟩ : ∃ s, s = e.toNat := ⟨_, rfl⟩
    rw [← hs, show (-e).toNat = 0 from by omega, Nat.pow_zero, Nat.mul_one]
    have hs64 : s < 2 ^ 64 := by omega
    have g : 0 < 2 ^ s := Nat.two_pow_pos s
    have c45 := shr128_c H L s _ _ hH64 hL64 hs64 rfl rfl
    rw [hHL] at c45
    obtain ⟨X, hX⟩ : ∃ X, X = N / 2 ^ s := ⟨_, rfl⟩
    rw [← hX] at c45
    have hXle : X ≤ N := by rw [hX]; exact Nat.div_le_self _ _
    have hX1 : X / 2 ^ 64 < 2 ^ 64 := by omega
    have hX2 : X % 2 ^ 64 < 2 ^ 64 := lt_mod _
    have hXw := words_of X
    have c46 := shl128_c (X / 2 ^ 64) (X % 2 ^ 64) s _ _ hX1 hX2 hs64 rfl rfl
    rw [hXw] at c46
    have w2 : IntKind.u64.wrap e = (s : Int) := by rw [IntKind.wrap_u64]; omega
    have hXs : X * 2 ^ s ≤ N := by rw [hX]; exact Nat.div_mul_le_self _ _
    rw [← cdiv_cdiv N (2 ^ s) m g hm]
    have hce := cdiv_eq N (2 ^ s) g
    rw [← hX] at hce
    have hdm := Nat.div_add_mod N (2 ^ s)
    rw [← hX, Nat.mul_comm] at hdm
    by_cases hr : N % 2 ^ s = 0
    · rw [if_pos hr, Nat.add_zero] at hce
      rw [hce]
      have ht := tail_c m (X / 2 ^ 64) (X % 2 ^ 64) hm hm' hX2
      rw [hXw] at ht
      have hNX : X * 2 ^ s = N := by omega
      rw [hNX, ← hL] at c46
      have hH' : N / 2 ^ 64 % 2 ^ 64 = H := by omega
      rw [hH'] at c46
      exact fill_pos m o e d f b H L s _ _ H L _ (decide_eq_false h0) w2 c43 c45 c46 (by simp) (by simp) ht w
    · rw [if_neg hr] at hce
      rw [hce]
      have hX1' : X + 1 < 2 ^ 128 := by
        have : X < N := by
          have : X * 1 ≤ X * 2 ^ s := Nat.mul_le_mul_left _ g
          omega
        omega
      have ht := tail_c m ((X + 1) / 2 ^ 64) ((X + 1) % 2 ^ 64) hm hm' (lt_mod _)
      rw [words_of (X + 1)] at ht
      have hadd : ∀ w, (callFunc 47 #[.int .u64 ((X % 2 ^ 64 : Nat) : Int), .int .u64 1, .int .u64 0]).run Tryd.prog w = .ok (.value (.tuple #[.int .u64 (((X + 1) % 2 ^ 64 : Nat) : Int), .int .u64 (((X % 2 ^ 64 + 1) / 2 ^ 64 : Nat) : Int)])) w := by
        intro w
        have e1 := succ_lo X
        have e2 := succ_cy X
        rw [add47 _ _ _ (by omega) (by omega) (by omega) (by omega), e1, e2]
      have ha : IntKind.u64.wrap (((X / 2 ^ 64 : Nat) : Int) + (((X % 2 ^ 64 + 1) / 2 ^ 64 : Nat) : Int)) = (((X + 1) / 2 ^ 64 : Nat) : Int) := by
        rw [IntKind.wrap_u64]; omega
      have hne : X * 2 ^ s < N := by omega
      obtain ⟨M, hM⟩ : ∃ M, M = X * 2 ^ s := ⟨_, rfl⟩
      rw [← hM] at c46 hne hXs
      by_cases h1 : M / 2 ^ 64 % 2 ^ 64 = H
      · have h2 : M % 2 ^ 64 ≠ L := by omega
        exact fill_carry2 m o e d f b H L s _ _ _ _ _ _ _ _ (decide_eq_false h0) w2 c43 c45 c46 (by rw [h1]; simp) (by rw [bne_iff_ne]; omega) hadd ha ht w
      · exact fill_carry1 m o e d f b H L s _ _ _ _ _ _ _ _ (decide_eq_false h0) w2 c43 c45 c46 (by rw [bne_iff_ne]; omega) hadd ha ht w

#print axioms fillTime_c
end Go.Proofs.Qxb6616096aDoor
