/- DERIVED. The arithmetic of math/bits.Div64 (the school method on halves): no Go in it. -/
namespace Go.Proofs.Qxb6616096aDoor.Pl
set_option linter.unusedVariables false
set_option maxRecDepth 100000

/-- the true digit is below the base -/
theorem dig_lt (u d y : Nat) (hu : u < y) (hd : d < 4294967296) : (u * 4294967296 + d) / y < 4294967296 := by
  apply (Nat.div_lt_iff_lt_mul (by omega)).2
  omega

theorem mul_y (q n1 n0 : Nat) : q * (n1 * 4294967296 + n0) = q * n1 * 4294967296 + q * n0 := by
  rw [Nat.mul_add, Nat.mul_assoc]

theorem dig_stop (u d n1 n0 q r : Nat) (hy : 0 < n1) (he : u = q * n1 + r)
    (hq : (u * 4294967296 + d) / (n1 * 4294967296 + n0) ≤ q) (ht : q * n0 ≤ 4294967296 * r + d) :
    q = (u * 4294967296 + d) / (n1 * 4294967296 + n0) := by
  apply Nat.le_antisymm _ hq
  apply (Nat.le_div_iff_mul_le (by omega)).2
  rw [mul_y]
  subst he
  generalize q * n1 = P at *
  generalize q * n0 = T at *
  omega

theorem dig_break (u d n1 n0 q r : Nat) (hy : 0 < n1) (hn0 : n0 < 4294967296) (he : u = q * n1 + r)
    (hq : (u * 4294967296 + d) / (n1 * 4294967296 + n0) ≤ q) (hqb : q ≤ 4294967296) (hr : 4294967296 ≤ r) :
    q = (u * 4294967296 + d) / (n1 * 4294967296 + n0) := by
  apply dig_stop u d n1 n0 q r hy he hq
  have h1 : q * n0 ≤ 4294967296 * 4294967296 := Nat.mul_le_mul hqb (by omega)
  omega

theorem dig_dec (u d n1 n0 q r : Nat) (hy : 0 < n1) (hu : u < n1 * 4294967296 + n0) (hd : d < 4294967296) (he : u = q * n1 + r)
    (ht : 4294967296 ≤ q ∨ 4294967296 * r + d < q * n0) :
    (u * 4294967296 + d) / (n1 * 4294967296 + n0) + 1 ≤ q := by
  rcases ht with h | h
  · have := dig_lt u d (n1 * 4294967296 + n0) hu hd
    omega
  · apply Nat.succ_le_of_lt
    apply (Nat.div_lt_iff_lt_mul (by omega)).2
    rw [mul_y]
    subst he
    generalize q * n1 = P at *
    generalize q * n0 = T at *
    omega

/-- the first guess -/
theorem dig_guess (u d n1 n0 : Nat) (hy : 0 < n1) (hb : 2147483648 ≤ n1) (hn0 : n0 < 4294967296) (hu : u < n1 * 4294967296 + n0) (hd : d < 4294967296) :
    (u * 4294967296 + d) / (n1 * 4294967296 + n0) ≤ u / n1 ∧ u / n1 ≤ 4294967297 ∧ u = u / n1 * n1 + (u - u / n1 * n1) ∧ u - u / n1 * n1 < n1 := by
  have e := Nat.div_add_mod u n1
  have hm := Nat.mod_lt u hy
  have e2 : n1 * (u / n1) = u / n1 * n1 := Nat.mul_comm _ _
  refine ⟨?_, ?_, by omega, by omega⟩
  · apply (Nat.le_div_iff_mul_le hy).2
    have h1 : (u * 4294967296 + d) / (n1 * 4294967296 + n0) * (n1 * 4294967296 + n0) ≤ u * 4294967296 + d := Nat.div_mul_le_self _ _
    rw [mul_y] at h1
    generalize (u * 4294967296 + d) / (n1 * 4294967296 + n0) = Q at *
    generalize Q * n1 = P at *
    generalize Q * n0 = T at *
    omega
  · apply Nat.le_of_lt_succ
    apply (Nat.div_lt_iff_lt_mul hy).2
    omega

theorem two_digitsB (B Y A b q1 r1 : Nat) (hY : 0 < Y) (e1 : Y * q1 + r1 = A) :
    (A * B + b) / Y = q1 * B + (r1 * B + b) / Y ∧ (A * B + b) % Y = (r1 * B + b) % Y := by
  have e3 : A * B + b = (r1 * B + b) + Y * (q1 * B) := by
    rw [← e1, ← Nat.mul_assoc, Nat.add_mul]
    ac_rfl
  rw [e3, Nat.add_mul_div_left _ _ hY, Nat.add_mul_mod_self_left]
  exact ⟨Nat.add_comm _ _, rfl⟩

/-- The whole: two digits. -/
theorem two_digits (N Y u a b : Nat) (hY : 0 < Y) (hN : N = u * 18446744073709551616 + a * 4294967296 + b) :
    N / Y = (u * 4294967296 + a) / Y * 4294967296 + ((u * 4294967296 + a) % Y * 4294967296 + b) / Y ∧
    N % Y = ((u * 4294967296 + a) % Y * 4294967296 + b) % Y := by
  have hN' : N = (u * 4294967296 + a) * 4294967296 + b := by rw [hN, Nat.add_mul, Nat.mul_assoc]
  rw [hN']
  obtain ⟨A, hA⟩ : ∃ A, A = u * 4294967296 + a := ⟨_, rfl⟩
  rw [← hA]
  exact two_digitsB 4294967296 Y A b (A / Y) (A % Y) hY (Nat.div_add_mod A Y)

theorem unscale (n y s : Nat) : n * 2 ^ s / (y * 2 ^ s) = n / y ∧ n * 2 ^ s % (y * 2 ^ s) / 2 ^ s = n % y := by
  have g : 0 < 2 ^ s := Nat.two_pow_pos s
  refine ⟨Nat.mul_div_mul_right _ _ g, ?_⟩
  rw [Nat.mul_mod_mul_right, Nat.mul_div_cancel _ g]

theorem rem_wrap (A q Y : Nat) (hY : 0 < Y) (hq : q = A / Y) : A - q * Y = A % Y ∧ q * Y ≤ A := by
  subst hq
  have e := Nat.div_add_mod A Y
  have : Y * (A / Y) = A / Y * Y := Nat.mul_comm _ _
  omega

#print axioms two_digits
end Go.Proofs.Qxb6616096aDoor.Pl
