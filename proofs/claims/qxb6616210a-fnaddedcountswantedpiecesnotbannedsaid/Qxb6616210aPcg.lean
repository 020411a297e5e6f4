namespace Go.Proofs.Qxb6616210a
set_option linter.unusedVariables false
set_option linter.unusedSimpArgs false
namespace Pcg

/-- x ↦ a x + c, n times. -/
def it (a c : Nat) : Nat → Nat → Nat
  | 0, x => x
  | n + 1, x => it a c n (a * x + c)

theorem it_add (a c m n x : Nat) : it a c (m + n) x = it a c n (it a c m x) := by
  induction m generalizing x with
  | zero => rw [Nat.zero_add]; rfl
  | succ m ih => rw [show m + 1 + n = (m + n) + 1 from by omega]; exact ih _

theorem it_pow (a c : Nat) (ha : ∃ u, a = 1 + 4 * u) (hc : ∃ v, c = 1 + 2 * v) (k : Nat) :
    ∃ u v, ∀ x, it a c (2 ^ k) x = (1 + 4 * (2 ^ k) * u) * x + (2 ^ k + 2 * (2 ^ k) * v) := by
  induction k with
  | zero =>
    obtain ⟨u, hu⟩ := ha
    obtain ⟨v, hv⟩ := hc
    exact ⟨u, v, fun x => by show a * x + c = _; rw [hu, hv]⟩
  | succ k ih =>
    obtain ⟨u, v, h⟩ := ih
    refine ⟨u + 2 * 2 ^ k * (u * u), v + u * (2 ^ k + 2 * 2 ^ k * v), fun x => ?_⟩
    have e0 : it a c (2 ^ (k + 1)) x = it a c (2 ^ k) (it a c (2 ^ k) x) := by
      rw [← it_add, show 2 ^ k + 2 ^ k = 2 ^ (k + 1) from by rw [Nat.pow_succ]; omega]
    rw [e0, h, h, Nat.pow_succ]
    generalize 2 ^ k = A
    grind

theorem reach (a c : Nat) (ha : ∃ u, a = 1 + 4 * u) (hc : ∃ v, c = 1 + 2 * v) (k x y : Nat) : ∃ n, it a c n x % 2 ^ k = y % 2 ^ k := by
  induction k with
  | zero => exact ⟨0, by simp [Nat.mod_one]⟩
  | succ k ih =>
    obtain ⟨n, hn⟩ := ih
    obtain ⟨u, v, h⟩ := it_pow a c ha hc k
    have hA0 : 0 < 2 ^ k := Nat.two_pow_pos k
    have e1 : 2 ^ (k + 1) = 2 * 2 ^ k := by rw [Nat.pow_succ]; omega
    rw [e1]
    obtain ⟨z, hz⟩ : ∃ z, z = it a c n x := ⟨_, rfl⟩
    rw [← hz] at hn
    by_cases hc2 : z % (2 * 2 ^ k) = y % (2 * 2 ^ k)
    · exact ⟨n, by rw [← hz]; exact hc2⟩
    · refine ⟨n + 2 ^ k, ?_⟩
      rw [it_add, ← hz, h]
      clear h hz e1
      generalize 2 ^ k = A at *
      have e3 : (1 + 4 * A * u) * z + (A + 2 * A * v) = z + A + 2 * A * (2 * u * z + v) := by grind
      rw [e3, Nat.add_mul_mod_self_left]
      have hz1 := Nat.div_add_mod z (2 * A)
      have hz2 := Nat.mod_lt z (show 0 < 2 * A by omega)
      have hy1 := Nat.div_add_mod y (2 * A)
      have hy2 := Nat.mod_lt y (show 0 < 2 * A by omega)
      have m1 : z % A = (z % (2 * A)) % A := (Nat.mod_mul_left_mod z 2 A).symm
      have m2 : y % A = (y % (2 * A)) % A := (Nat.mod_mul_left_mod y 2 A).symm
      rw [m1, m2] at hn
      obtain ⟨p, hp⟩ : ∃ p, p = z % (2 * A) := ⟨_, rfl⟩
      obtain ⟨q, hq⟩ : ∃ q, q = y % (2 * A) := ⟨_, rfl⟩
      rw [← hp] at hn hc2 hz1 hz2
      rw [← hq] at hn hc2 hy1 hy2 ⊢
      have hp' : p % A = if p < A then p else p - A := by
        split
        · exact Nat.mod_eq_of_lt (by assumption)
        · rw [Nat.mod_eq_sub_mod (by omega), Nat.mod_eq_of_lt (by omega)]
      have hq' : q % A = if q < A then q else q - A := by
        split
        · exact Nat.mod_eq_of_lt (by assumption)
        · rw [Nat.mod_eq_sub_mod (by omega), Nat.mod_eq_of_lt (by omega)]
      rw [hp', hq'] at hn
      have e4 : z + A = p + A + 2 * A * (z / (2 * A)) := by omega
      rw [e4, Nat.add_mul_mod_self_left]
      by_cases hpA : p < A
      · rw [if_pos hpA] at hn
        rw [Nat.mod_eq_of_lt (by omega)]
        split at hn <;> omega
      · rw [if_neg hpA] at hn
        rw [Nat.mod_eq_sub_mod (by omega), Nat.mod_eq_of_lt (by omega)]
        split at hn <;> omega

section
variable (a c M : Nat)
/-- The generator's step, on its 128 bits. -/
def next (x : Nat) : Nat := (x * a + c) % M
def nextN : Nat → Nat → Nat
  | 0, x => x
  | n + 1, x => nextN n (next a c M x)

theorem it_congr (n : Nat) : ∀ x y, x % M = y % M → it a c n x % M = it a c n y % M := by
  induction n with
  | zero => intro x y h; exact h
  | succ n ih =>
    intro x y h
    apply ih
    rw [Nat.add_mod, Nat.mul_mod, h, ← Nat.mul_mod, ← Nat.add_mod]

theorem nextN_it (n x : Nat) : nextN a c M n x % M = it a c n x % M := by
  induction n generalizing x with
  | zero => rfl
  | succ n ih =>
    show nextN a c M n (next a c M x) % M = it a c n (a * x + c) % M
    rw [ih]
    apply it_congr
    unfold next
    rw [Nat.mod_mod, Nat.mul_comm]

theorem nextN_lt (hM : 0 < M) (n x : Nat) (hx : x < M) : nextN a c M n x < M := by
  induction n generalizing x with
  | zero => exact hx
  | succ n ih => exact ih _ (Nat.mod_lt _ hM)

/-- Every state is reached from every state. -/
theorem reach_state (ha : ∃ u, a = 1 + 4 * u) (hc : ∃ v, c = 1 + 2 * v) (k : Nat) (hM : M = 2 ^ k) (x y : Nat) (hy : y < M) : ∃ n, nextN a c M (n + 1) x = y := by
  have hM0 : 0 < M := by rw [hM]; exact Nat.two_pow_pos k
  obtain ⟨n, hn⟩ := reach a c ha hc k (next a c M x) y
  refine ⟨n, ?_⟩
  have hl := nextN_lt a c M hM0 n (next a c M x) (Nat.mod_lt _ hM0)
  rw [← hM, ← nextN_it, Nat.mod_eq_of_lt hl, Nat.mod_eq_of_lt hy] at hn
  exact hn
end

/-- What a draw gives of the state's two words. -/
def out (hi lo : Nat) : Nat :=
  (((hi ^^^ (hi / 4294967296)) * 15750249268501108917 % 18446744073709551616) ^^^ (((hi ^^^ (hi / 4294967296)) * 15750249268501108917 % 18446744073709551616) / 281474976710656)) * (lo ||| 1) % 18446744073709551616

theorem out_ones : out 8285685522624391957 0 = 18446744073709551615 := by decide

/-- A draw of all ones comes at last. -/
theorem ones (a c M B : Nat) (ha : ∃ u, a = 1 + 4 * u) (hc : ∃ v, c = 1 + 2 * v) (hM : M = 2 ^ 128) (hB : B = 2 ^ 64) (x : Nat) : ∃ n, out (nextN a c M (n + 1) x / B) (nextN a c M (n + 1) x % B) = 18446744073709551615 := by
  have hlt : 8285685522624391957 * B < M := by rw [hM, hB]; decide
  obtain ⟨n, hn⟩ := reach_state a c M ha hc 128 hM x (8285685522624391957 * B) hlt
  refine ⟨n, ?_⟩
  have hB0 : 0 < B := by rw [hB]; exact Nat.two_pow_pos 64
  rw [hn, Nat.mul_div_cancel _ hB0, Nat.mul_mod_left]
  exact out_ones

end Pcg
end Go.Proofs.Qxb6616210a
