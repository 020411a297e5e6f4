/- DERIVED. Shifts of a number of two words: no Go in it. -/
namespace Go.Proofs.Qxb6616096aDoor.Pl
set_option linter.unusedVariables false

theorem mod_scale (h s t : Nat) : h * 2 ^ s % 2 ^ (t + s) = h % 2 ^ t * 2 ^ s := by
  rw [Nat.pow_add, Nat.mul_mod_mul_right]

/-- A head of 's' bits' shift and a tail below it. -/
theorem head_tail (h s t r : Nat) (hr : r < 2 ^ s) : (h * 2 ^ s + r) % 2 ^ (t + s) = h * 2 ^ s % 2 ^ (t + s) ||| r := by
  rw [mod_scale, Nat.mul_comm (h % 2 ^ t) (2 ^ s), ← Nat.two_pow_add_eq_or_of_lt hr]
  have hq : h % 2 ^ t < 2 ^ t := Nat.mod_lt _ (Nat.two_pow_pos t)
  have e := Nat.div_add_mod h (2 ^ t)
  have e2 : h * 2 ^ s + r = 2 ^ (t + s) * (h / 2 ^ t) + (2 ^ s * (h % 2 ^ t) + r) := by
    conv => lhs; rw [← e]
    rw [Nat.pow_add, Nat.add_mul]
    have a1 : 2 ^ t * (h / 2 ^ t) * 2 ^ s = 2 ^ t * 2 ^ s * (h / 2 ^ t) := Nat.mul_right_comm _ _ _
    have a2 : h % 2 ^ t * 2 ^ s = 2 ^ s * (h % 2 ^ t) := Nat.mul_comm _ _
    rw [a1, a2, Nat.add_assoc]
  rw [e2, Nat.mul_add_mod]
  apply Nat.mod_eq_of_lt
  have h3 : 2 ^ s * (h % 2 ^ t + 1) ≤ 2 ^ s * 2 ^ t := Nat.mul_le_mul_left _ hq
  rw [Nat.mul_add, Nat.mul_one] at h3
  rw [Nat.pow_add, Nat.mul_comm (2 ^ t)]
  omega

theorem div_top (x : Nat) (h : x < 2 ^ 64) : x / 2 ^ 64 = 0 := Nat.div_eq_of_lt h

theorem mul_top (x : Nat) : x * 2 ^ 64 % 2 ^ 64 = 0 := Nat.mul_mod_left _ _

theorem shl_hi (h l s : Nat) (hh : h < 2 ^ 64) (hl : l < 2 ^ 64) (hs : s < 2 ^ 64) :
    (h * 2 ^ min s 64 % 2 ^ 64 ||| l / 2 ^ min ((64 + 2 ^ 64 - s) % 2 ^ 64) 64) ||| l * 2 ^ min ((s + 2 ^ 64 - 64) % 2 ^ 64) 64 % 2 ^ 64 = ((h * 2 ^ 64 + l) * 2 ^ s / 2 ^ 64) % 2 ^ 64 := by
  have gen : s ≤ 64 → (h * 2 ^ 64 + l) * 2 ^ s / 2 ^ 64 = h * 2 ^ s + l / 2 ^ (64 - s) := by
    intro h64
    rw [Nat.add_mul, Nat.mul_right_comm, Nat.add_comm (h * 2 ^ s * 2 ^ 64), Nat.add_mul_div_right _ _ (Nat.two_pow_pos 64), Nat.add_comm]
    congr 1
    have : (2 : Nat) ^ 64 = 2 ^ (64 - s) * 2 ^ s := by rw [← Nat.pow_add]; congr 1; omega
    rw [this, Nat.mul_div_mul_right _ _ (Nat.two_pow_pos s)]
  have gen2 : 64 ≤ s → (h * 2 ^ 64 + l) * 2 ^ s / 2 ^ 64 % 2 ^ 64 = l * 2 ^ (s - 64) % 2 ^ 64 := by
    intro h64
    have : (2 : Nat) ^ s = 2 ^ (s - 64) * 2 ^ 64 := by rw [← Nat.pow_add]; congr 1; omega
    rw [this, ← Nat.mul_assoc, Nat.mul_div_cancel _ (Nat.two_pow_pos 64), Nat.add_mul, Nat.mul_right_comm, Nat.add_comm, Nat.add_mul_mod_self_right]
  by_cases h0 : s = 0
  · subst h0
    rw [gen (by omega), show min 0 64 = 0 from rfl, show min ((64 + 2 ^ 64 - 0) % 2 ^ 64) 64 = 64 from by decide, show min ((0 + 2 ^ 64 - 64) % 2 ^ 64) 64 = 64 from by decide,
      div_top l hl, mul_top, Nat.or_zero, Nat.or_zero, Nat.add_zero]
  by_cases h1 : s < 64
  · rw [gen (by omega), show min s 64 = s from by omega, show min ((64 + 2 ^ 64 - s) % 2 ^ 64) 64 = 64 - s from by omega, show min ((s + 2 ^ 64 - 64) % 2 ^ 64) 64 = 64 from by omega,
      mul_top, Nat.or_zero]
    have hr : l / 2 ^ (64 - s) < 2 ^ s := by
      apply (Nat.div_lt_iff_lt_mul (Nat.two_pow_pos _)).2
      rw [← Nat.pow_add, show s + (64 - s) = 64 from by omega]
      exact hl
    have := head_tail h s (64 - s) _ hr
    rw [show 64 - s + s = 64 from by omega] at this
    exact this.symm
  by_cases h2 : s = 64
  · subst h2
    rw [gen2 (by omega), show min 64 64 = 64 from rfl, show min ((64 + 2 ^ 64 - 64) % 2 ^ 64) 64 = 0 from by decide, mul_top, Nat.zero_or, Nat.pow_zero, Nat.div_one, Nat.mul_one,
      Nat.mod_eq_of_lt hl, Nat.or_self]
  · rw [gen2 (by omega), show min s 64 = 64 from by omega, show min ((64 + 2 ^ 64 - s) % 2 ^ 64) 64 = 64 from by omega, mul_top, div_top l hl, Nat.zero_or, Nat.zero_or]
    by_cases h3 : s < 128
    · rw [show min ((s + 2 ^ 64 - 64) % 2 ^ 64) 64 = s - 64 from by omega]
    · rw [show min ((s + 2 ^ 64 - 64) % 2 ^ 64) 64 = 64 from by omega, mul_top]
      have : (2 : Nat) ^ (s - 64) = 2 ^ (s - 128) * 2 ^ 64 := by rw [← Nat.pow_add]; congr 1; omega
      rw [this, ← Nat.mul_assoc, mul_top]

theorem shl_lo (h l s : Nat) : l * 2 ^ min s 64 % 2 ^ 64 = (h * 2 ^ 64 + l) * 2 ^ s % 2 ^ 64 := by
  rw [Nat.add_mul, Nat.mul_right_comm, Nat.add_comm, Nat.add_mul_mod_self_right]
  by_cases h1 : s < 64
  · rw [show min s 64 = s from by omega]
  · rw [show min s 64 = 64 from by omega, mul_top]
    have : (2 : Nat) ^ s = 2 ^ (s - 64) * 2 ^ 64 := by rw [← Nat.pow_add]; congr 1; omega
    rw [this, ← Nat.mul_assoc, mul_top]

theorem shr_lo (h l s : Nat) (hh : h < 2 ^ 64) (hl : l < 2 ^ 64) (hs : s < 2 ^ 64) :
    (l / 2 ^ min s 64 ||| h * 2 ^ min ((64 + 2 ^ 64 - s) % 2 ^ 64) 64 % 2 ^ 64) ||| h / 2 ^ min ((s + 2 ^ 64 - 64) % 2 ^ 64) 64 = (h * 2 ^ 64 + l) / 2 ^ s % 2 ^ 64 := by
  have gen : s ≤ 64 → (h * 2 ^ 64 + l) / 2 ^ s = h * 2 ^ (64 - s) + l / 2 ^ s := by
    intro h64
    have : (2 : Nat) ^ 64 = 2 ^ (64 - s) * 2 ^ s := by rw [← Nat.pow_add]; congr 1; omega
    rw [this, ← Nat.mul_assoc, Nat.add_comm, Nat.add_mul_div_right _ _ (Nat.two_pow_pos s), Nat.add_comm]
  have gen2 : 64 ≤ s → (h * 2 ^ 64 + l) / 2 ^ s = h / 2 ^ (s - 64) := by
    intro h64
    have : (2 : Nat) ^ s = 2 ^ 64 * 2 ^ (s - 64) := by rw [← Nat.pow_add]; congr 1; omega
    rw [this, ← Nat.div_div_eq_div_mul, Nat.add_comm, Nat.add_mul_div_right _ _ (Nat.two_pow_pos 64), div_top l hl, Nat.zero_add]
  by_cases h0 : s = 0
  · subst h0
    rw [show min 0 64 = 0 from rfl, show min ((64 + 2 ^ 64 - 0) % 2 ^ 64) 64 = 64 from by decide, show min ((0 + 2 ^ 64 - 64) % 2 ^ 64) 64 = 64 from by decide,
      div_top h hh, mul_top, Nat.or_zero, Nat.or_zero, Nat.pow_zero, Nat.div_one, Nat.div_one, Nat.add_comm, Nat.add_mul_mod_self_right, Nat.mod_eq_of_lt hl]
  by_cases h1 : s < 64
  · rw [gen (by omega), show min s 64 = s from by omega, show min ((64 + 2 ^ 64 - s) % 2 ^ 64) 64 = 64 - s from by omega, show min ((s + 2 ^ 64 - 64) % 2 ^ 64) 64 = 64 from by omega,
      div_top h hh, Nat.or_zero]
    have hr : l / 2 ^ s < 2 ^ (64 - s) := by
      apply (Nat.div_lt_iff_lt_mul (Nat.two_pow_pos _)).2
      rw [← Nat.pow_add, show 64 - s + s = 64 from by omega]
      exact hl
    have := head_tail h (64 - s) s _ hr
    rw [show s + (64 - s) = 64 from by omega] at this
    rw [this, Nat.or_comm]
  by_cases h2 : s = 64
  · subst h2
    rw [gen2 (by omega), show min 64 64 = 64 from rfl, show min ((64 + 2 ^ 64 - 64) % 2 ^ 64) 64 = 0 from by decide, div_top l hl, Nat.zero_or, Nat.pow_zero, Nat.mul_one,
      Nat.div_one, Nat.mod_eq_of_lt hh, Nat.or_self]
  · rw [gen2 (by omega), show min s 64 = 64 from by omega, show min ((64 + 2 ^ 64 - s) % 2 ^ 64) 64 = 64 from by omega, mul_top, div_top l hl, Nat.zero_or, Nat.zero_or]
    have hb : h / 2 ^ (s - 64) < 2 ^ 64 := Nat.lt_of_le_of_lt (Nat.div_le_self _ _) hh
    rw [Nat.mod_eq_of_lt hb]
    by_cases h3 : s < 128
    · rw [show min ((s + 2 ^ 64 - 64) % 2 ^ 64) 64 = s - 64 from by omega]
    · rw [show min ((s + 2 ^ 64 - 64) % 2 ^ 64) 64 = 64 from by omega]
      rw [div_top h hh]
      clear hb
      have e : s - 64 = 64 + (s - 128) := by omega
      rw [e, Nat.pow_add, ← Nat.div_div_eq_div_mul, div_top h hh, Nat.zero_div]

theorem shr_hi (h l s : Nat) (hh : h < 2 ^ 64) (hl : l < 2 ^ 64) : h / 2 ^ min s 64 = (h * 2 ^ 64 + l) / 2 ^ s / 2 ^ 64 := by
  rw [Nat.div_div_eq_div_mul, Nat.mul_comm (2 ^ s), ← Nat.div_div_eq_div_mul, Nat.add_comm, Nat.add_mul_div_right _ _ (Nat.two_pow_pos 64), div_top l hl, Nat.zero_add]
  by_cases h1 : s < 64
  · rw [show min s 64 = s from by omega]
  · rw [show min s 64 = 64 from by omega, div_top h hh]
    have : (2 : Nat) ^ s = 2 ^ 64 * 2 ^ (s - 64) := by rw [← Nat.pow_add]; congr 1; omega
    rw [this, ← Nat.div_div_eq_div_mul, div_top h hh, Nat.zero_div]

#print axioms shr_lo
end Go.Proofs.Qxb6616096aDoor.Pl
