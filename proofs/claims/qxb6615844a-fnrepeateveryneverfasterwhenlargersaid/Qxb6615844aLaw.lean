import Derived.Test.Qxb6615844aFloat
import Derived.Laws.FloatArith
/- THE PLAIN LAW: no Go program in sight. -/
namespace Go.Proofs.Qxb6615844a
open Ieee Flt

theorem fmt_eq : FloatKind.f64.format = double := rfl

theorem V_of (x e k : Nat) (h1 : mg x = 2 ^ 52) (h2 : ex x = e) (h : 52 + e = k + 1074) : V x = 2 ^ k * U := by
  unfold V
  rw [h1, h2, ← Nat.pow_add, h, Nat.pow_add, pow_U _ rfl]

/-- 2 ^ 52 and 1, as words. -/
def W52 : Nat := 4841369599423283200
def W1 : Nat := 4607182418800017408
theorem V_W52 : V W52 = 2 ^ 52 * U := V_of W52 1074 52 (by decide) (by decide) rfl
theorem V_one : V W1 = U := by rw [V_of W1 1022 0 (by decide) (by decide) rfl, Nat.pow_zero, Nat.one_mul]
theorem V_64 : V (1087 * 2 ^ 52) = 2 ^ 64 * U := V_of _ 1086 64 (by decide) (by decide) rfl

theorem rung_nat_lt (m : Nat) (h : m < 2 ^ 64) : rung (-1074) (m * U) < 2047 * 2 ^ 52 := by
  have h1 : m * U ≤ V (1087 * 2 ^ 52) := by rw [V_64]; exact Nat.mul_le_mul_right _ (by omega)
  have h2 := rung_mono (-1074) (by omega) h1
  rw [rung_V] at h2
  omega

theorem ofInt_eq (n : Int) (h0 : 0 ≤ n) (h1 : n < 2 ^ 63) :
    floatOfInt .f64 n = rung (-1074) (n.toNat * U) ∧ floatOfInt .f64 n < 2047 * 2 ^ 52 := by
  have h2 := rung_nat_lt n.toNat (by omega)
  have e : floatOfInt .f64 n = double.write (.number false n.natAbs 0) := by
    unfold floatOfInt FloatKind.nearest FloatKind.encode
    rw [fmt_eq, show decide (n < 0) = false from by simp; omega]
  rw [e, ofNat_rung, show n.natAbs = n.toNat from by omega, Nat.min_eq_left (by omega)]
  exact ⟨rfl, h2⟩

theorem rg_nn {x : Nat} (h : NN x) : rg x ≤ 2047 * 2 ^ 52 := by
  unfold rg
  rcases h with h | h
  · split <;> omega
  · rw [if_pos h]; omega

/-- The product of a number from zero up and a finite one. -/
theorem mul_nn (x y : Nat) (hx : NN x) (hf : rg x < 2047 * 2 ^ 52) (hy : y < 2047 * 2 ^ 52) :
    ∃ z, double.mul x y = some z ∧ NN z ∧ rg z = min (rung (-2148) (V (rg x) * V y)) (2047 * 2 ^ 52) := by
  rcases hx with h | h
  · have e : rg x = x := if_neg (by omega)
    rw [e] at hf ⊢
    refine ⟨_, mul_fin x y hf hy, Or.inl (Nat.min_le_right _ _), ?_⟩
    unfold rg
    rw [if_neg]
    have := Nat.min_le_right (rung (-2148) (V x * V y)) (2047 * 2 ^ 52)
    omega
  · subst h
    refine ⟨_, mul_negzero y hy, Or.inr rfl, ?_⟩
    rw [show rg (2 ^ 63) = 0 from rfl, V_zero, Nat.zero_mul]
    rfl

theorem toInt_nn (x : Nat) (hx : NN x) (hf : rg x < 2047 * 2 ^ 52) : (double.read x).toInt .zero = some ((V (rg x) / U : Nat) : Int) := by
  rcases hx with h | h
  · have e : rg x = x := if_neg (by omega)
    rw [e] at hf ⊢
    exact toInt_fin x hf
  · subst h
    rw [toInt_negzero, show rg (2 ^ 63) = 0 from rfl, V_zero, Nat.zero_div]
    rfl

theorem toIntVal_nn (x : Nat) (hx : NN x) (hf : rg x < 2047 * 2 ^ 52) (hb : V (rg x) / U < 2 ^ 63) :
    floatToIntVal .f64 x .i64 = some ((V (rg x) / U : Nat) : Int) := by
  unfold floatToIntVal FloatKind.decode
  rw [fmt_eq, toInt_nn x hx hf]
  generalize V (rg x) / U = q at *
  have : IntKind.min .i64 ≤ (q : Int) ∧ (q : Int) ≤ IntKind.max .i64 := by
    rw [show IntKind.min .i64 = -9223372036854775808 from rfl, show IntKind.max .i64 = 9223372036854775807 from rfl]
    omega
  simp only [this, and_self, if_true]

theorem order_lt_iff (x y : Nat) (hx : NN x) (hy : NN y) : (double.order x y == some .lt) = true ↔ rg x < rg y := by
  rw [order_nn x y hx hy]
  rw [← Nat.compare_eq_lt]
  cases compare (rg x) (rg y) <;> decide

/-- THE LAW OF THE PERIOD. -/
theorem core (dl dh x2 : Nat) (n : Int) (h0 : 0 ≤ n) (h1 : n < 2 ^ 63) (hl : NN dl) (hh : NN dh) (hle : rg dl ≤ rg dh)
    (hm : double.mul dh (floatOfInt .f64 n) = some x2) (hx : (double.order x2 W52 == some .lt) = true) :
    ∃ (x1 : Nat) (t1 t2 : Int), floatBits .mul .f64 dl (floatOfInt .f64 n) = some x1 ∧ floatBits .mul .f64 dh (floatOfInt .f64 n) = some x2 ∧
      floatToIntVal .f64 x1 .i64 = some t1 ∧ floatToIntVal .f64 x2 .i64 = some t2 ∧ 0 ≤ t1 ∧ t1 ≤ t2 ∧ t2 < 4503599627370496 ∧
      ∀ r : Int, t2 ≤ r → r < 2 ^ 63 → ∃ y, floatBits .add .f64 (floatOfInt .f64 r) W1 = some y ∧ (FloatKind.f64.format.order x2 y == some .lt) = true := by
  obtain ⟨_, hI⟩ := ofInt_eq n h0 h1
  generalize hIe : floatOfInt .f64 n = I at *
  have hU := U_pos
  have w52 : NN W52 := Or.inl (by decide)
  have rw52 : rg W52 = W52 := by decide
  -- the greater is finite
  have hfin : rg dh < 2047 * 2 ^ 52 := by
    rcases Nat.lt_or_eq_of_le (rg_nn hh) with h | h
    · exact h
    · exfalso
      have hd : dh = 2047 * 2 ^ 52 := by
        unfold rg at h
        split at h
        · omega
        · exact h
      subst hd
      rcases Nat.eq_zero_or_pos I with h3 | h3
      · rw [h3, mul_inf_zero] at hm; cases hm
      · rw [mul_inf I h3 hI] at hm
        cases hm
        revert hx; decide
  obtain ⟨z2, e2, n2, g2⟩ := mul_nn dh I hh hfin hI
  rw [hm] at e2
  cases e2
  obtain ⟨x1, e1, n1, g1⟩ := mul_nn dl I hl (by omega) hI
  have lt2 : rg x2 < W52 := by
    have := (order_lt_iff x2 _ n2 w52).1 hx
    rwa [rw52] at this
  have w52lt : W52 < 2047 * 2 ^ 52 := by decide
  have le12 : rg x1 ≤ rg x2 := by
    have a : V (rg dl) * V I ≤ V (rg dh) * V I := Nat.mul_le_mul_right _ ((V_le_iff _ _).2 hle)
    have b := rung_mono (-2148) (by omega) a
    omega
  have v2 : V (rg x2) < 2 ^ 52 * U := by
    rw [← V_W52]; exact (V_lt_iff _ _).2 lt2
  have q2 : V (rg x2) / U < 2 ^ 52 := (Nat.div_lt_iff_lt_mul hU).2 v2
  have q12 : V (rg x1) / U ≤ V (rg x2) / U := Nat.div_le_div_right ((V_le_iff _ _).2 le12)
  have i1 := toIntVal_nn x1 n1 (by omega) (by omega)
  have i2 := toIntVal_nn x2 n2 (by omega) (by omega)
  have vdm := Nat.div_add_mod (V (rg x2)) U
  have vml := Nat.mod_lt (V (rg x2)) hU
  generalize V (rg x2) / U = t at *
  generalize V (rg x1) / U = t' at *
  refine ⟨x1, _, _, e1, hm, i1, i2, by omega, by omega, by omega, ?_⟩
  intro r hr hr63
  have hr0 : 0 ≤ r := by omega
  obtain ⟨er, fr⟩ := ofInt_eq r hr0 hr63
  generalize floatOfInt .f64 r = F at *
  have one : (W1 : Nat) < 2047 * 2 ^ 52 := by decide
  have ha := add_fin F W1 fr one
  refine ⟨_, ha, ?_⟩
  -- the whole part of x2, and that one more, are words
  obtain ⟨c, hc⟩ := exact_word t (by omega)
  obtain ⟨d, hd⟩ := exact_word (t + 1) (by omega)
  have hF : c ≤ F := by
    have a : t * U ≤ r.toNat * U := Nat.mul_le_mul_right _ (by omega)
    have b := rung_mono (-1074) (by omega) a
    rw [← hc, rung_V] at b
    omega
  have hVF : t * U ≤ V F := by rw [← hc]; exact (V_le_iff _ _).2 hF
  have hS : d ≤ rung (-1074) (V F + V W1) := by
    have a : V d ≤ V F + V W1 := by
      rw [hd, V_one, Nat.add_mul, Nat.one_mul]; omega
    have b := rung_mono (-1074) (by omega) a
    rwa [rung_V] at b
  have hxd : rg x2 < d := by
    apply (V_lt_iff _ _).1
    rw [hd, Nat.add_mul, Nat.one_mul, Nat.mul_comm t U]
    omega
  generalize rung (-1074) (V F + V W1) = R at *
  have ny : NN (min R (2047 * 2 ^ 52)) := Or.inl (Nat.min_le_right _ _)
  rw [fmt_eq, order_lt_iff _ _ n2 ny]
  have : rg (min R (2047 * 2 ^ 52)) = min R (2047 * 2 ^ 52) := by
    unfold rg
    rw [if_neg]
    have := Nat.min_le_right R (2047 * 2 ^ 52)
    omega
  rw [this]
  omega

end Go.Proofs.Qxb6615844a
