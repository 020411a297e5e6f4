import Derived.Test.Qxb6616096aDoorRate2
import Derived.Test.Qxb6616096aDoorWide4
namespace Go.Proofs.Qxb6616096aDoor
open Go.RowKit
set_option linter.unusedVariables false
set_option linter.unusedSimpArgs false
set_option maxRecDepth 100000
open Pl

/-- A rate as the limiter holds it: what the walks behind the building need. -/
structure RateOK (b m o : Nat) (e : Int) (d f : Nat) : Prop where
  m0 : 0 < m
  m1 : m < 2 ^ 53
  o0 : 0 < o
  o1 : o < 2 ^ 63
  e1 : -1300 < e
  e2 : e < 3000
  b1 : b ≤ 2 ^ 53
  den : d = denOf o e
  fill : f = fillOf b o m e

def rArr (m o : Nat) (e : Int) (d f : Nat) : Array Value := #[.int .u64 (m : Int), .int .u64 (o : Int), .int .i64 e, .int .u64 (d : Int), .int .u64 (f : Int)]

/-- Where the denominator is no word: the rate is slow. -/
theorem RateOK.slow {b m o : Nat} {e : Int} {d f : Nat} (h : RateOK b m o e d f) (hd : d = 0) : 2 ^ 64 ≤ o * 2 ^ (-e).toNat ∧ e < 0 := by
  have hd' := h.den
  unfold denOf at hd'
  rw [hd] at hd'
  by_cases hlt : o * 2 ^ (max (-e) 0).toNat < 18446744073709551616
  · rw [if_pos hlt] at hd'
    have := Nat.mul_pos h.o0 (Nat.two_pow_pos (max (-e) 0).toNat)
    omega
  · have he : e < 0 := by
      apply Int.lt_of_not_ge
      intro hge
      apply hlt
      rw [show (max (-e) 0).toNat = 0 from by omega, Nat.pow_zero, Nat.mul_one]
      have := h.o1
      omega
    refine ⟨?_, he⟩
    rw [show (max (-e) 0).toNat = (-e).toNat from by omega] at hlt
    omega

set_option maxHeartbeats 2000000 in
theorem within_w (m o e d f t H L s a c q r : Int) (c43 : Hid (Two 43 #[.int .u64 t, .int .u64 m] H L)) (hs : IntKind.i64.wrap (-e) = s) (hs' : IntKind.u64.wrap s = s)
    (c45 : Hid (Two 45 #[.int .u64 H, .int .u64 L, .int .u64 s] a c))
    (c48 : Hid (∀ w, Calls Tryd.prog 48 #[.int .u64 a, .int .u64 c, .int .u64 o] w fun e w' => e = .returned (.tuple #[.int .u64 q, .int .u64 r]) ∧ ∃ n, w' = w.drewN n)) (w : World) :
    Calls Tryd.prog 60 #[.agg #[.int .u64 m, .int .u64 o, .int .i64 e, .int .u64 d, .int .u64 f], .int .u64 t] w fun e' w' => e' = .returned (.int .u64 q) ∧ ∃ n, w' = (w.alloc (.cells (rateCells m o e d f) 54)).drewN n := by
  go_enter Tryd.func60, Tryd.ntmps60
  go_wp2_with fail
  refine (c43.out _).mono ?_
  rintro e w1 ⟨rfl, rfl⟩
  go_wp2_with fail
  refine (c45.out _).mono ?_
  rintro e w1 ⟨rfl, rfl⟩
  go_wp2_with fail
  refine (c48.out _).mono ?_
  rintro e w1 ⟨rfl, n, rfl⟩
  go_wp2_with fail
  go_ret
  exact ⟨rfl, n, rfl⟩

/-- The whole tokens within t. -/
def withinOf (m o : Nat) (e : Int) (t : Nat) : Nat := t * m / 2 ^ (-e).toNat / o

theorem within_lt {b m o : Nat} {e : Int} {d f : Nat} (h : RateOK b m o e d f) (hd : d = 0) (t : Nat) (ht : t < 2 ^ 64) : t * m / 2 ^ (-e).toNat / 2 ^ 64 < o ∧ withinOf m o e t < 2 ^ 64 := by
  obtain ⟨h1, h2⟩ := h.slow hd
  have g := Nat.two_pow_pos (-e).toNat
  have hm := h.m1
  have k1 : t * m / 2 ^ (-e).toNat < 2 ^ 64 * o := by
    apply (Nat.div_lt_iff_lt_mul g).2
    rw [Nat.mul_assoc]
    have a1 : t * m ≤ t * 2 ^ 64 := Nat.mul_le_mul_left _ (by omega)
    have a2 : t * (o * 2 ^ (-e).toNat) ≥ t * 2 ^ 64 := Nat.mul_le_mul_left _ h1
    have a3 : t * (o * 2 ^ (-e).toNat) < 2 ^ 64 * (o * 2 ^ (-e).toNat) := (Nat.mul_lt_mul_right (by omega)).2 ht
    omega
  refine ⟨(Nat.div_lt_iff_lt_mul (Nat.two_pow_pos 64)).2 (by rw [Nat.mul_comm o]; exact k1), ?_⟩
  unfold withinOf
  exact (Nat.div_lt_iff_lt_mul h.o0).2 k1

theorem within_c {b m o : Nat} {e : Int} {d f : Nat} (h : RateOK b m o e d f) (hd : d = 0) (t : Nat) (ht : t < 2 ^ 64) (w : World) :
    Calls Tryd.prog 60 #[.agg (rArr m o e d f), .int .u64 (t : Int)] w fun e' w' => e' = .returned (.int .u64 ((withinOf m o e t : Nat) : Int)) ∧ ∃ n, w' = (w.alloc (.cells (rArr m o e d f) 54)).drewN n := by
  obtain ⟨N, hN⟩ : ∃ N, N = t * m := ⟨_, rfl⟩
  obtain ⟨s, hs⟩ : ∃ s, s = (-e).toNat := ⟨_, rfl⟩
  have hw := within_lt h hd t ht
  have hm1 := h.m1; have ho1 := h.o1; have he1 := h.e1; have he2 := h.e2
  have he := (h.slow hd).2
  unfold withinOf at hw ⊢
  rw [← hN, ← hs] at hw ⊢
  have hN128 : N < 2 ^ 128 := by
    have h1 : t * m ≤ (2 ^ 64 - 1) * (2 ^ 64 - 1) := Nat.mul_le_mul (by omega) (by omega)
    rw [hN]; exact Nat.lt_of_le_of_lt h1 (by decide)
  have c43 := two43 t m (N / 2 ^ 64) (N % 2 ^ 64) ht (by omega) (by rw [hN]) (by rw [hN])
  have c45 := shr128_c (N / 2 ^ 64) (N % 2 ^ 64) s _ _ (by omega) (lt_mod _) (by omega) rfl rfl
  rw [words_of N] at c45
  obtain ⟨X, hX⟩ : ∃ X, X = N / 2 ^ s := ⟨_, rfl⟩
  rw [← hX] at c45 hw ⊢
  have c48 := div64_c (X / 2 ^ 64) (X % 2 ^ 64) o hw.1 (by omega) (lt_mod _)
  rw [words_of X] at c48
  exact within_w m o e d f t _ _ (s : Int) _ _ _ _ c43 (by rw [IntKind.wrap_i64]; omega) (by rw [IntKind.wrap_u64]; omega) c45 c48 w

theorem withinOf_zero (m o : Nat) (e : Int) : withinOf m o e 0 = 0 := by unfold withinOf; simp

end Go.Proofs.Qxb6616096aDoor
