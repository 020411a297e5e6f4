import Derived.Test.Qxb6616096aDoorCmp
import Derived.Lib.Mul64
namespace Go.Proofs.Qxb6616096aDoor
open Go.RowKit
set_option linter.unusedVariables false
set_option linter.unusedSimpArgs false
set_option maxRecDepth 100000
open Pl Flt Ieee

set_option maxHeartbeats 2000000 in
theorem mul128_w (a b a0 a1 b0 b1 p00 p01 p10 p11 q0 r1 s1 r2 mid r0 ms lo q1 t1 q2 t2 q3 hi : Int)
    (e1 : bits .and .u64 a 4294967295 = a0) (e2 : a / 4294967296 = a1) (e3 : bits .and .u64 b 4294967295 = b0) (e4 : b / 4294967296 = b1)
    (e5 : IntKind.u64.wrap (a0 * b0) = p00) (e6 : IntKind.u64.wrap (a0 * b1) = p01) (e7 : IntKind.u64.wrap (a1 * b0) = p10) (e8 : IntKind.u64.wrap (a1 * b1) = p11)
    (e9 : p00 / 4294967296 = q0) (e10 : bits .and .u64 p01 4294967295 = r1) (e11 : IntKind.u64.wrap (q0 + r1) = s1) (e12 : bits .and .u64 p10 4294967295 = r2) (e13 : IntKind.u64.wrap (s1 + r2) = mid)
    (e14 : bits .and .u64 p00 4294967295 = r0) (e15 : IntKind.u64.wrap (mid * 4294967296) = ms) (e16 : bits .or .u64 r0 ms = lo)
    (e17 : p01 / 4294967296 = q1) (e18 : IntKind.u64.wrap (p11 + q1) = t1) (e19 : p10 / 4294967296 = q2) (e20 : IntKind.u64.wrap (t1 + q2) = t2) (e21 : mid / 4294967296 = q3) (e22 : IntKind.u64.wrap (t2 + q3) = hi) (w : World) :
    Calls Tryd.prog 37 #[.int .u64 a, .int .u64 b] w fun e w' => e = .returned (.tuple #[.int .u64 hi, .int .u64 lo]) ∧ w = w' := by
  go_enter Tryd.func37, Tryd.ntmps37
  go_wp2_with fail
  go_ret2
  exact ⟨rfl, rfl⟩

theorem wrapN (a : Nat) (h : a < 2 ^ 64) : IntKind.u64.wrap (a : Int) = (a : Int) := wrap_nat a h
theorem maskN (a : Nat) (h : a < 2 ^ 64) : bits .and .u64 (a : Int) 4294967295 = ((a % 4294967296 : Nat) : Int) := mask32 a h
theorem shrN (a : Nat) : (a : Int) / 4294967296 = ((a / 4294967296 : Nat) : Int) := by omega

theorem or_low (a b : Nat) (ha : a < 4294967296) (hb : b < 4294967296) : bits .or .u64 (a : Int) ((b * 4294967296 : Nat) : Int) = ((b * 4294967296 + a : Nat) : Int) := by
  have h := bits_or_u64_nat a (b * 4294967296) (by omega) (by omega)
  have e : a ||| (b * 4294967296) = b * 4294967296 + a := by
    rw [Nat.or_comm, show b * 4294967296 = 2 ^ 32 * b from by omega]
    exact (Nat.two_pow_add_eq_or_of_lt (i := 32) ha b).symm
  rw [e] at h
  exact h

theorem school (P11 P01 P10 P00 N : Nat) (h1 : P11 ≤ 18446744065119617025) (h2 : P01 ≤ 18446744065119617025) (h3 : P10 ≤ 18446744065119617025) (h4 : P00 ≤ 18446744065119617025)
    (hN : N = P11 * 18446744073709551616 + P10 * 4294967296 + P01 * 4294967296 + P00) (hN2 : N < 340282366920938463463374607431768211456) :
    P11 + P01 / 4294967296 + P10 / 4294967296 + (P00 / 4294967296 + P01 % 4294967296 + P10 % 4294967296) / 4294967296 = N / 18446744073709551616 ∧
    (P00 / 4294967296 + P01 % 4294967296 + P10 % 4294967296) % 4294967296 * 4294967296 + P00 % 4294967296 = N % 18446744073709551616 ∧
    P11 + P01 / 4294967296 + P10 / 4294967296 + (P00 / 4294967296 + P01 % 4294967296 + P10 % 4294967296) / 4294967296 < 18446744073709551616 := by
  omega

theorem mul128_c (a b : Nat) (ha : a < 2 ^ 64) (hb : b < 2 ^ 64) (w : World) :
    Calls Tryd.prog 37 #[.int .u64 (a : Int), .int .u64 (b : Int)] w fun e w' => e = .returned (.tuple #[.int .u64 ((a * b / 2 ^ 64 : Nat) : Int), .int .u64 ((a * b % 2 ^ 64 : Nat) : Int)]) ∧ w = w' := by
  obtain ⟨P11, h11⟩ : ∃ P, P = (a / 4294967296) * (b / 4294967296) := ⟨_, rfl⟩
  obtain ⟨P10, h10⟩ : ∃ P, P = (a / 4294967296) * (b % 4294967296) := ⟨_, rfl⟩
  obtain ⟨P01, h01⟩ : ∃ P, P = (a % 4294967296) * (b / 4294967296) := ⟨_, rfl⟩
  obtain ⟨P00, h00⟩ : ∃ P, P = (a % 4294967296) * (b % 4294967296) := ⟨_, rfl⟩
  have hN : a * b = P11 * 18446744073709551616 + P10 * 4294967296 + P01 * 4294967296 + P00 := by
    have e := Lib.split_mul (a / 4294967296) (a % 4294967296) (b / 4294967296) (b % 4294967296) 4294967296
    rw [Nat.div_add_mod' a 4294967296, Nat.div_add_mod' b 4294967296] at e
    rw [e, ← h11, ← h10, ← h01, ← h00, Nat.add_mul, show (4294967296 * 4294967296 : Nat) = 18446744073709551616 from rfl, ← Nat.add_assoc]
  have l11 : P11 ≤ 18446744065119617025 := by rw [h11]; exact Lib.half_mul_le (by omega) (by omega)
  have l10 : P10 ≤ 18446744065119617025 := by rw [h10]; exact Lib.half_mul_le (by omega) (by omega)
  have l01 : P01 ≤ 18446744065119617025 := by rw [h01]; exact Lib.half_mul_le (by omega) (by omega)
  have l00 : P00 ≤ 18446744065119617025 := by rw [h00]; exact Lib.half_mul_le (by omega) (by omega)
  obtain ⟨N, hNd⟩ : ∃ N, N = a * b := ⟨_, rfl⟩
  have hN2 : N < 340282366920938463463374607431768211456 := by
    have h1 : a * b ≤ 18446744073709551615 * 18446744073709551615 := Nat.mul_le_mul (by omega) (by omega)
    rw [hNd]; exact Nat.lt_of_le_of_lt h1 (by decide)
  rw [← hNd] at hN ⊢
  obtain ⟨s1, s2, s3⟩ := school P11 P01 P10 P00 N l11 l01 l10 l00 hN hN2
  obtain ⟨mid, hmid⟩ : ∃ mid, mid = P00 / 4294967296 + P01 % 4294967296 + P10 % 4294967296 := ⟨_, rfl⟩
  rw [← hmid] at s1 s2 s3
  have hmid' : mid < 12884901888 := by omega
  rw [show (2 : Nat) ^ 64 = 18446744073709551616 from rfl, ← s1, ← s2]
  clear s1 s2 hN hN2 hNd
  have k1 : ((a % 4294967296 : Nat) : Int) * ((b % 4294967296 : Nat) : Int) = (P00 : Int) := by rw [h00]; exact (Int.natCast_mul _ _).symm
  have k2 : ((a % 4294967296 : Nat) : Int) * ((b / 4294967296 : Nat) : Int) = (P01 : Int) := by rw [h01]; exact (Int.natCast_mul _ _).symm
  have k3 : ((a / 4294967296 : Nat) : Int) * ((b % 4294967296 : Nat) : Int) = (P10 : Int) := by rw [h10]; exact (Int.natCast_mul _ _).symm
  have k4 : ((a / 4294967296 : Nat) : Int) * ((b / 4294967296 : Nat) : Int) = (P11 : Int) := by rw [h11]; exact (Int.natCast_mul _ _).symm
  clear h11 h10 h01 h00
  refine mul128_w a b ((a % 4294967296 : Nat) : Int) ((a / 4294967296 : Nat) : Int) ((b % 4294967296 : Nat) : Int) ((b / 4294967296 : Nat) : Int) P00 P01 P10 P11 ((P00 / 4294967296 : Nat) : Int) ((P01 % 4294967296 : Nat) : Int) ((P00 / 4294967296 + P01 % 4294967296 : Nat) : Int) ((P10 % 4294967296 : Nat) : Int) mid ((P00 % 4294967296 : Nat) : Int) ((mid % 4294967296 * 4294967296 : Nat) : Int) _ ((P01 / 4294967296 : Nat) : Int) ((P11 + P01 / 4294967296 : Nat) : Int) ((P10 / 4294967296 : Nat) : Int) ((P11 + P01 / 4294967296 + P10 / 4294967296 : Nat) : Int) ((mid / 4294967296 : Nat) : Int) _
    (maskN a ha) (shrN a) (maskN b hb) (shrN b) (by rw [k1]; exact wrapN _ (by omega)) (by rw [k2]; exact wrapN _ (by omega)) (by rw [k3]; exact wrapN _ (by omega)) (by rw [k4]; exact wrapN _ (by omega))
    (shrN P00) (maskN P01 (by omega)) (by rw [IntKind.wrap_u64]; omega) (maskN P10 (by omega)) (by rw [IntKind.wrap_u64]; omega) (maskN P00 (by omega)) (by rw [IntKind.wrap_u64]; omega) (or_low _ _ (by omega) (by omega))
    (shrN P01) (by rw [IntKind.wrap_u64]; omega) (shrN P10) (by rw [IntKind.wrap_u64]; omega) (shrN mid) (by rw [IntKind.wrap_u64]; omega) w

end Go.Proofs.Qxb6616096aDoor
