import Derived.Test.Qxb6616096aDoorDivW
import Derived.Lib.BitFns
import Derived.BigQuiet
namespace Go.Proofs.Qxb6616096aDoor
open Go.RowKit
set_option linter.unusedVariables false
set_option linter.unusedSimpArgs false
set_option maxRecDepth 100000

theorem wrap_sub3 (a b c : Int) : IntKind.u64.wrap (IntKind.u64.wrap (IntKind.u64.wrap a + b) - IntKind.u64.wrap c) = (a + b - c) % 18446744073709551616 := by
  simp only [IntKind.wrap_u64]; omega
theorem wrap_add2 (a b : Int) : IntKind.u64.wrap (IntKind.u64.wrap a + b) = (a + b) % 18446744073709551616 := by
  simp only [IntKind.wrap_u64]; omega
theorem wrap_nat (a : Nat) (h : a < 18446744073709551616) : IntKind.u64.wrap (a : Int) = (a : Int) := by rw [IntKind.wrap_u64]; omega

theorem mask32 (a : Nat) (ha : a < 18446744073709551616) : bits .and .u64 (a : Int) 4294967295 = ((a % 4294967296 : Nat) : Int) := by
  have h := bits_and_u64_nat a 4294967295 ha (by omega)
  have e : a &&& 4294967295 = a % 4294967296 := Nat.and_two_pow_sub_one_eq_mod a 32
  rw [e] at h
  exact h

theorem lz_bounds (y : Nat) (h0 : 0 < y) (hy : y < 2 ^ 64) : ∃ s : Nat, (64 - (Lib.bitLen y : Int)) = (s : Int) ∧ s < 64 ∧ 2 ^ 63 ≤ y * 2 ^ s ∧ y * 2 ^ s < 2 ^ 64 := by
  have h4 := Lib.bitLen_le y 64 (Nat.le_refl _) hy
  have k1 := Flt.pow_log2_le y (by omega)
  have k2 := Flt.log2_lt_pow y
  have k3 : y / 2 ^ y.log2 = 1 := by
    apply Nat.div_eq_of_lt_le
    · rw [Nat.one_mul]; exact k1
    · rw [show 1 + 1 = 2 from rfl, Nat.mul_comm, ← Nat.pow_succ]; exact k2
  have hL : Lib.bitLen y = y.log2 + 1 := by
    rw [Lib.bitLen_shift y.log2 y k1 hy, k3]; rfl
  have h1 : 1 ≤ Lib.bitLen y := by omega
  have h2 : 2 ^ (Lib.bitLen y - 1) ≤ y := by rw [hL]; exact k1
  have h3 : y < 2 ^ (Lib.bitLen y) := by rw [hL]; exact k2
  clear k1 k2 k3 hL
  generalize Lib.bitLen y = L at *
  refine ⟨64 - L, by omega, by omega, ?_, ?_⟩
  · have : (2 : Nat) ^ 63 = 2 ^ (L - 1) * 2 ^ (64 - L) := by rw [← Nat.pow_add]; congr 1; omega
    rw [this]; exact Nat.mul_le_mul_right _ h2
  · have : (2 : Nat) ^ 64 = 2 ^ L * 2 ^ (64 - L) := by rw [← Nat.pow_add]; congr 1; omega
    rw [this]; exact (Nat.mul_lt_mul_right (Nat.two_pow_pos _)).2 h3

/-- The first guess, ready for the walk. -/
theorem guess_start (u d n1 n0 : Nat) (hb : 2147483648 ≤ n1) (hb' : n1 < 4294967296) (hn0 : n0 < 4294967296) (hu : u < n1 * 4294967296 + n0) (hd : d < 4294967296) :
    ∃ q r : Nat, IntKind.u64.wrap ((u : Int).tdiv (n1 : Int)) = (q : Int) ∧ IntKind.u64.wrap ((u : Int) - IntKind.u64.wrap ((q : Int) * (n1 : Int))) = (r : Int) ∧ GuessI u d n1 n0 (q : Int) (r : Int) := by
  obtain ⟨g1, g2, g3, g4⟩ := Pl.dig_guess u d n1 n0 (by omega) hb hn0 hu hd
  have hu' : u < 18446744073709551616 := by omega
  have hq : u / n1 ≤ u := Nat.div_le_self _ _
  refine ⟨u / n1, u - u / n1 * n1, ?_, ?_, ⟨_, _, rfl, rfl, ⟨g3, g1, by omega, g2⟩⟩⟩
  · rw [← Int.ofNat_tdiv]; exact wrap_nat _ (by omega)
  · rw [← Int.natCast_mul]
    generalize u / n1 * n1 = P at *
    rw [wrap_nat P (by omega), IntKind.wrap_u64]
    omega

/-- The step's remainder does not wrap. -/
theorem rem_step (u d Y : Nat) (hY : 0 < Y) (hY' : Y ≤ 18446744073709551616) :
    IntKind.u64.wrap (IntKind.u64.wrap (IntKind.u64.wrap ((u : Int) * 4294967296) + (d : Int)) - IntKind.u64.wrap ((((u * 4294967296 + d) / Y : Nat) : Int) * (Y : Int))) = (((u * 4294967296 + d) % Y : Nat) : Int) := by
  rw [wrap_sub3]
  have e := Nat.div_add_mod (u * 4294967296 + d) Y
  have hm := Nat.mod_lt (u * 4294967296 + d) hY
  obtain ⟨A, hA⟩ : ∃ A, A = u * 4294967296 + d := ⟨_, rfl⟩
  have hA' : (u : Int) * 4294967296 + (d : Int) = (A : Int) := by rw [hA]; omega
  rw [← hA] at e hm ⊢
  rw [hA']
  have e' : ((A / Y : Nat) : Int) * (Y : Int) = ((Y * (A / Y) : Nat) : Int) := by rw [Int.natCast_mul, Int.mul_comm]
  rw [e']
  generalize A % Y = R at *
  generalize Y * (A / Y) = P at *
  omega

set_option maxHeartbeats 2000000 in
theorem div64_small (l y : Nat) (hy0 : 0 < y) (hy : y < 18446744073709551616) (hl : l < 18446744073709551616) (w : World) :
    Calls Tryd.prog 48 #[.int .u64 0, .int .u64 l, .int .u64 y] w fun e w' => e = .returned (.tuple #[.int .u64 ((l / y : Nat) : Int), .int .u64 ((l % y : Nat) : Int)]) ∧ ∃ n, w' = w.drewN n := by
  have ky : ((y : Int) == 0) = false := by simp; omega
  have ky0 : ¬ y = 0 := by omega
  have kl : (decide (y ≤ 0)) = false := by simp; omega
  have hq : l / y ≤ l := Nat.div_le_self _ _
  have hr : l % y < y := Nat.mod_lt _ hy0
  go_enter Tryd.func48, Tryd.ntmps48
  go_wp2_with fail
  go_quiet (fail)
  go_wp2_with fail
  go_ret2
  refine ⟨ret2u ?_ ?_, _, rfl⟩
  · show IntKind.u64.wrap ((l : Int) / (y : Int)) = _
    rw [← Int.natCast_ediv]; exact wrap_nat _ (by omega)
  · show (l : Int) % (y : Int) = _
    exact (Int.natCast_emod l y).symm

theorem or_split (h l s : Nat) (hh : h < 2 ^ 64) (hl : l < 2 ^ 64) (hs : s < 64) :
    bits .or .u64 (IntKind.u64.wrap ((h : Int) * 2 ^ min s 64)) ((l : Int) / 2 ^ min (IntKind.u64.wrap (64 - (s : Int))).toNat 64) = (((h * 2 ^ 64 + l) * 2 ^ s / 2 ^ 64 % 2 ^ 64 : Nat) : Int) := by
  have h1 := shl_hi_int h l s hh hl (by omega)
  rw [nat_64s s (by omega), nat_s64 s (by omega), cast_mulpow, cast_mulpow, cast_divpow, or_nat _ _ (lt_mod _) (lt_div _ _ hl)] at h1
  rw [nat_64s s (by omega), cast_mulpow, cast_divpow, or_nat _ _ (lt_mod _) (lt_div _ _ hl), ← h1]
  rw [show min ((s + 2 ^ 64 - 64) % 2 ^ 64) 64 = 64 from by omega, Pl.mul_top, or_nat _ _ (Nat.or_lt_two_pow (lt_mod _) (lt_div _ _ hl)) (by omega), Nat.or_zero]

theorem div64_big (h l y : Nat) (hh0 : 0 < h) (hh : h < y) (hy : y < 2 ^ 64) (hl : l < 2 ^ 64) (w : World) :
    Calls Tryd.prog 48 #[.int .u64 h, .int .u64 l, .int .u64 y] w fun e w' => e = .returned (.tuple #[.int .u64 (((h * 2 ^ 64 + l) / y : Nat) : Int), .int .u64 (((h * 2 ^ 64 + l) % y : Nat) : Int)]) ∧ w = w' := by
  obtain ⟨s, hs1, hs2, hs3, hs4⟩ := lz_bounds y (by omega) hy
  obtain ⟨Y, hY⟩ : ∃ Y, Y = y * 2 ^ s := ⟨_, rfl⟩
  rw [← hY] at hs3 hs4
  obtain ⟨N, hN⟩ : ∃ N, N = h * 2 ^ 64 + l := ⟨_, rfl⟩
  obtain ⟨u, hu⟩ : ∃ u, u = N * 2 ^ s / 2 ^ 64 := ⟨_, rfl⟩
  obtain ⟨v, hv⟩ : ∃ v, v = N * 2 ^ s % 2 ^ 64 := ⟨_, rfl⟩
  have hNs : N * 2 ^ s = u * 2 ^ 64 + v := by
    have := Nat.div_add_mod (N * 2 ^ s) (2 ^ 64)
    rw [hu, hv]; omega
  have hNy : N < y * 2 ^ 64 := by rw [hN]; omega
  have huY : u < Y := by
    rw [hu]
    apply (Nat.div_lt_iff_lt_mul (Nat.two_pow_pos 64)).2
    rw [hY, Nat.mul_right_comm]
    exact (Nat.mul_lt_mul_right (Nat.two_pow_pos s)).2 hNy
  have hv64 : v < 2 ^ 64 := by rw [hv]; exact Nat.mod_lt _ (Nat.two_pow_pos 64)
  obtain ⟨n1, hn1⟩ : ∃ n1, n1 = Y / 4294967296 := ⟨_, rfl⟩
  obtain ⟨n0, hn0⟩ : ∃ n0, n0 = Y % 4294967296 := ⟨_, rfl⟩
  obtain ⟨u1, hu1⟩ : ∃ u1, u1 = v / 4294967296 := ⟨_, rfl⟩
  obtain ⟨u0, hu0⟩ : ∃ u0, u0 = v % 4294967296 := ⟨_, rfl⟩
  have hYn : n1 * 4294967296 + n0 = Y := by omega
  have hvn : v = u1 * 4294967296 + u0 := by omega
  have b1 : 2147483648 ≤ n1 := by omega
  have b2 : n1 < 4294967296 := by omega
  have b3 : n0 < 4294967296 := by omega
  have b4 : u1 < 4294967296 := by omega
  have b5 : u0 < 4294967296 := by omega
  have buY : u < n1 * 4294967296 + n0 := by rw [hYn]; exact huY
  obtain ⟨q, r, q1, q2, q3⟩ := guess_start u u1 n1 n0 b1 b2 b3 buY b4
  obtain ⟨z, hz⟩ : ∃ z, z = (u * 4294967296 + u1) % Y := ⟨_, rfl⟩
  have hYpos : 0 < Y := by omega
  have hzY : z < Y := by rw [hz]; exact Nat.mod_lt _ hYpos
  have bzY : z < n1 * 4294967296 + n0 := by rw [hYn]; exact hzY
  obtain ⟨q', r', q4, q5, q6⟩ := guess_start z u0 n1 n0 b1 b2 b3 bzY b5
  have hT : N * 2 ^ s = u * 18446744073709551616 + u1 * 4294967296 + u0 := by
    have h2 : (2 : Nat) ^ 64 = 18446744073709551616 := rfl
    rw [hNs, hvn, h2, Nat.add_assoc]
  obtain ⟨T1, T2⟩ := Pl.two_digits (N * 2 ^ s) Y u u1 u0 hYpos hT
  rw [← hz] at T1 T2
  have k := Pl.unscale N y s
  rw [← hY] at k
  have f1 := rem_step u u1 Y hYpos (by omega)
  have f5 := rem_step z u0 Y hYpos (by omega)
  rw [← hz] at f1
  rw [← T2] at f5
  have hlt : N / y < 2 ^ 64 := (Nat.div_lt_iff_lt_mul (by omega)).2 (by omega)
  rw [← hN]
  refine div_core u u1 u0 n1 n0 z s h l y Y n1 n0 u v u1 u0 q r (((u * 4294967296 + u1) / Y : Nat) : Int) z q' r' (((z * 4294967296 + u0) / Y : Nat) : Int) _ ((N * 2 ^ s % Y : Nat) : Int) _
    (show 0 < n1 by omega) b2 b3 b4 b5 buY bzY rfl rfl rfl rfl (by simp; omega) (by simp; omega) (by simp; omega) (by omega) (by rw [IntKind.wrap_u64]; omega) ?_ ?_ ?_ ?_ ?_ ?_ ?_ ?_ q1 q2 q3 ?_ f1 q4 q5 q6 ?_ ?_ f5 ?_ w
  · intro w
    refine (Tryd.bits_LeadingZeros64 (y : Int) w (by omega) (by omega)).mono ?_
    rintro e w' ⟨rfl, rfl⟩
    rw [Int.toNat_natCast, hs1]
    exact ⟨rfl, rfl⟩
  · rw [show min s 64 = s from by omega, cast_mulpow, ← hY, Nat.mod_eq_of_lt hs4]
  · omega
  · rw [mask32 Y (by omega), hn0]
  · rw [or_split h l s (by omega) hl hs2, ← hN, ← hu, Nat.mod_eq_of_lt (by omega)]
  · rw [shl_lo_int h l s, ← hN, ← hv]
  · omega
  · rw [mask32 v (by omega), hu0]
  · rw [hYn]; rfl
  · rw [hYn]; rfl
  · rw [wrap_add2]
    rw [← k.1, T1]
    rw [← k.1, T1] at hlt
    obtain ⟨A, hA⟩ : ∃ A, A = (u * 4294967296 + u1) / Y := ⟨_, rfl⟩
    obtain ⟨B, hB⟩ : ∃ B, B = (z * 4294967296 + u0) / Y := ⟨_, rfl⟩
    rw [← hA, ← hB] at hlt ⊢
    omega
  · rw [show min s 64 = s from by omega, cast_divpow, k.2]

theorem div64_c (h l y : Nat) (hh : h < y) (hy : y < 2 ^ 64) (hl : l < 2 ^ 64) (w : World) :
    Calls Tryd.prog 48 #[.int .u64 h, .int .u64 l, .int .u64 y] w fun e w' => e = .returned (.tuple #[.int .u64 (((h * 2 ^ 64 + l) / y : Nat) : Int), .int .u64 (((h * 2 ^ 64 + l) % y : Nat) : Int)]) ∧ ∃ n, w' = w.drewN n := by
  rcases Nat.eq_zero_or_pos h with h0 | h0
  · subst h0
    rw [Nat.zero_mul, Nat.zero_add]
    exact div64_small l y hh hy hl w
  · refine (div64_big h l y h0 hh hy hl w).mono ?_
    rintro e w' ⟨rfl, rfl⟩
    exact ⟨rfl, 0, rfl⟩

#print axioms div64_c
end Go.Proofs.Qxb6616096aDoor
