import Derived.Test.Qxb6616096aDoorFloat
/- DERIVED. Doubling and halving of a double, and what 'finite' asks: no Go in it. -/
namespace Go.Proofs.Qxb6616096aDoor.Flt
open Ieee
set_option linter.unusedVariables false
set_option linter.unusedSimpArgs false

/-- The word twice as great (no lid). -/
def dbl (x : Nat) : Nat := if x < 2 ^ 52 then 2 * x else x + 2 ^ 52

theorem V_dbl (x : Nat) : V (dbl x) = V x * 2 := by
  unfold dbl
  by_cases h : x < 2 ^ 52
  · rw [if_pos h]
    unfold V mg ex
    rw [if_pos h]
    rw [Nat.div_eq_of_lt h, show 0 - 1 = 0 from rfl, Nat.pow_zero, Nat.mul_one]
    by_cases h2 : 2 * x < 2 ^ 52
    · rw [if_pos h2, Nat.div_eq_of_lt h2, show 0 - 1 = 0 from rfl, Nat.pow_zero, Nat.mul_one]; omega
    · rw [if_neg h2, show 2 * x / 2 ^ 52 = 1 from by omega, show 1 - 1 = 0 from rfl, Nat.pow_zero, Nat.mul_one]; omega
  · rw [if_neg h]
    unfold V mg ex
    rw [if_neg h, if_neg (by omega), show (x + 2 ^ 52) % 2 ^ 52 = x % 2 ^ 52 from by omega,
      show (x + 2 ^ 52) / 2 ^ 52 - 1 = (x / 2 ^ 52 - 1) + 1 from by omega]
    generalize x / 2 ^ 52 - 1 = e
    rw [Nat.pow_add 2 e 1, Nat.pow_one, Nat.mul_assoc]

def dblN : Nat → Nat → Nat
  | 0, x => x
  | k + 1, x => dblN k (dbl x)

theorem V_dblN (k x : Nat) : V (dblN k x) = V x * 2 ^ k := by
  induction k generalizing x with
  | zero => simp [dblN]
  | succ k ih => rw [dblN, ih, V_dbl, Nat.pow_succ]; ac_rfl

theorem V_inj {x y : Nat} (h : V x = V y) : x = y := by
  have h1 := (V_le_iff x y).1 (by omega)
  have h2 := (V_le_iff y x).1 (by omega)
  omega

theorem rung_shift (N : Nat) (k : Nat) (h : N ≠ 0) : rung (-1074 - (k : Int)) (N * 2 ^ k) = rung (-1074) N := by
  unfold rung
  have g : 0 < 2 ^ k := Nat.two_pow_pos k
  rw [if_neg h, if_neg (Nat.mul_ne_zero h (by omega)), log2_mul_pow _ _ h]
  rw [show (-1074 - (k : Int)) + ((N.log2 + k : Nat) : Int) - 52 = -1074 + (N.log2 : Int) - 52 from by omega]
  generalize hA : max (-1074 + (N.log2 : Int) - 52) (-1074) = A
  have hA' : -1074 ≤ A := by omega
  rw [show (A - (-1074 - (k : Int))).toNat = (A - -1074).toNat + k from by omega, rne_scale]

theorem V_pos {x : Nat} (h : 0 < x) : 0 < V x := by
  have := (V_lt_iff 0 x).2 h
  rw [V_zero] at this
  exact this

/-- A product with a power of two, exact. -/
theorem mul_exact (x c y k : Nat) (hx : x < 2047 * 2 ^ 52) (hc : c < 2047 * 2 ^ 52) (hVc : V c = 2 ^ k * U) (hy : V y = V x * 2 ^ k) (h0 : 0 < x) :
    double.mul x c = some (min y (2047 * 2 ^ 52)) := by
  rw [mul_fin x c hx hc, hVc, ← Nat.mul_assoc, ← hy]
  have := rung_shift (V y) top (by rw [hy]; exact Nat.mul_ne_zero (by have := V_pos h0; omega) (by have := Nat.two_pow_pos k; omega))
  rw [show (-1074 - ((top : Nat) : Int)) = -2148 from rfl] at this
  rw [show U = 2 ^ top from rfl, this, rung_V]

theorem mul_exact' (x c y k : Nat) (hx : x < 2047 * 2 ^ 52) (hc : c < 2047 * 2 ^ 52) (hVc : V c = 2 ^ k * U) (hy : V y = V x * 2 ^ k) (h0 : 0 < x) :
    double.mul c x = some (min y (2047 * 2 ^ 52)) := by
  rw [← mul_exact x c y k hx hc hVc hy h0, mul_fin c x hc hx, mul_fin x c hx hc, Nat.mul_comm]

theorem V_word (e : Nat) (he : 1 ≤ e) : V (e * 2 ^ 52) = 2 ^ (e + 51) := by
  unfold V mg ex
  rw [if_neg (by omega), Nat.mul_mod_left, Nat.mul_div_cancel _ (Nat.two_pow_pos 52), Nat.add_zero, ← Nat.pow_add]
  congr 1
  omega

theorem V_at (e k : Nat) (he : 1 ≤ e) (h : e + 51 = k + top) : V (e * 2 ^ 52) = 2 ^ k * U :=
  (V_word e he).trans ((congrArg (fun n => 2 ^ n) h).trans (Nat.pow_add 2 k top))
theorem V_two : V 4611686018427387904 = 2 ^ 1 * U := V_at 1024 1 (by omega) rfl
theorem V_one : V 4607182418800017408 = 2 ^ 0 * U := V_at 1023 0 (by omega) rfl
theorem V_2p52 : V 4841369599423283200 = 2 ^ 52 * U := V_at 1075 52 (by omega) rfl

theorem mul_two (x : Nat) (hx : x < 2047 * 2 ^ 52) (h0 : 0 < x) : double.mul x 4611686018427387904 = some (min (dbl x) (2047 * 2 ^ 52)) :=
  mul_exact x _ (dbl x) 1 hx (by omega) V_two (by rw [V_dbl, Nat.pow_one]) h0

theorem mul_two_inf : double.mul (2047 * 2 ^ 52) 4611686018427387904 = some (2047 * 2 ^ 52) := mul_inf _ (by omega) (by omega)

theorem one_mul (x : Nat) (hx : x < 2047 * 2 ^ 52) (h0 : 0 < x) : double.mul 4607182418800017408 x = some x := by
  rw [mul_exact' x _ x 0 hx (by omega) V_one (by rw [Nat.pow_zero, Nat.mul_one]) h0, Nat.min_eq_left (by omega)]

/-- The first scaling of a subnormal number. -/
theorem mul_sub (x : Nat) (hx : x < 2 ^ 52) (h0 : 0 < x) : ∃ y, double.mul x 4841369599423283200 = some y ∧ V y = V x * 2 ^ 52 ∧ 2 ^ 52 ≤ y ∧ y < 54 * 2 ^ 52 := by
  have hV := V_dblN 52 x
  have hVx : V x = x := by unfold V mg ex; rw [if_pos hx, Nat.div_eq_of_lt hx, show 0 - 1 = 0 from rfl, Nat.pow_zero, Nat.mul_one]
  have h1 : 2 ^ 52 ≤ dblN 52 x := by
    apply (V_le_iff _ _).1
    rw [hV, hVx]
    have : V (2 ^ 52) = 2 ^ 52 := by have := V_word 1 (by omega); rw [Nat.one_mul] at this; exact this
    rw [this]; omega
  have h2 : dblN 52 x < 54 * 2 ^ 52 := by
    apply (V_lt_iff _ _).1
    rw [hV, hVx, V_word _ (by omega)]
    omega
  refine ⟨dblN 52 x, ?_, hV, h1, h2⟩
  rw [mul_exact x _ (dblN 52 x) 52 (by omega) (by omega) V_2p52 hV h0, Nat.min_eq_left (by omega)]

theorem sub_self (x : Nat) (hx : x < 2047 * 2 ^ 52) : double.sub x x = some 0 := by
  unfold Format.sub
  rw [read_fin x hx]
  simp only [Datum.opposite, Datum.sum, Option.map_some]
  have e : ∀ k, signed false (mg x) k + signed (!false) (mg x) k = 0 := by
    intro k; simp [signed]; omega
  rw [e]
  simp [Format.write, Format.nearest, Format.word]

theorem sub_inf : double.sub (2047 * 2 ^ 52) (2047 * 2 ^ 52) = none := by decide

/-- What is above zero: a finite word, or infinity. -/
theorem pos_of_gt (d : Nat) (hd : d < 2 ^ 64) (h : (double.order d 0 == some .gt) = true) : 0 < d ∧ d ≤ 2047 * 2 ^ 52 := by
  have hn := nn_of_ge d hd (by rw [h]; rfl)
  have ho := order_nn d 0 hn (Or.inl (by omega))
  rw [ho, show rg 0 = 0 from rfl] at h
  rcases hn with hn | hn
  · rw [show rg d = d from if_neg (by omega)] at h
    refine ⟨?_, hn⟩
    rcases Nat.eq_zero_or_pos d with h0 | h0
    · subst h0; simp at h
    · exact h0
  · subst hn
    exact absurd h (by decide)

theorem order_pos (x y : Nat) (hx : x ≤ 2047 * 2 ^ 52) (hy : y ≤ 2047 * 2 ^ 52) : double.order x y = some (compare x y) := by
  rw [order_nn x y (Or.inl hx) (Or.inl hy), show rg x = x from if_neg (by omega), show rg y = y from if_neg (by omega)]

/-- Halving, where nothing is lost. -/
theorem div_two (x : Nat) (hx : x < 2047 * 2 ^ 52) (hb : 6 * 2 ^ 52 ≤ x) : double.div x 4611686018427387904 = some (x - 2 ^ 52) := by
  unfold Format.div
  have hr2 : double.read 4611686018427387904 = .number false (2 ^ 52) (-51) := by decide
  rw [read_fin x hx, hr2]
  have hm : mg x = 2 ^ 52 + x % 2 ^ 52 := by unfold mg; rw [if_neg (by omega)]
  have hlt : x % 2 ^ 52 < 2 ^ 52 := Nat.mod_lt _ (Nat.two_pow_pos 52)
  have hl : (mg x).log2 = 52 := log2_eq (by omega) (by omega)
  have hl2 : (2 ^ 52 : Nat).log2 = 52 := by decide
  simp only [Datum.quotient, hl, hl2, Option.map_some, Format.write, Bool.xor_false]
  rw [if_neg (by decide)]
  have hfb : double.fractionBits = 52 := rfl
  simp only [hfb, Option.map_some, Format.write, shl_eq]
  rw [show 52 + 2 + 52 - 52 = 54 from rfl]
  have e1 : mg x * 2 ^ 54 / 2 ^ 52 = mg x * 4 := by omega
  have e2 : mg x * 2 ^ 54 % 2 ^ 52 = 0 := by omega
  rw [e1, e2]
  have hex : 5 ≤ ex x := by unfold ex; omega
  rw [nearest_rung _ _ _ (-1074) (by omega) (by omega), word_false, infRung_eq]
  simp only [bne_self_eq_false, Bool.toNat_false, Nat.add_zero]
  have e3 : 2 * (mg x * 4) * 2 ^ (((ex x : Int) - 1074) - -51 - ((54 : Nat) : Int) - 1 - -1074).toNat = V (x - 2 ^ 52) := by
    rw [show (((ex x : Int) - 1074) - -51 - ((54 : Nat) : Int) - 1 - -1074).toNat = ex x - 4 from by omega]
    have em : mg (x - 2 ^ 52) = mg x := by unfold mg; rw [if_neg (by omega), if_neg (by omega)]; omega
    have ee : ex (x - 2 ^ 52) = (ex x - 4) + 3 := by unfold ex; omega
    unfold V
    rw [em, ee, Nat.pow_add]
    generalize 2 ^ (ex x - 4) = T
    rw [show 2 * (mg x * 4) = mg x * 8 from by omega, Nat.mul_assoc, Nat.mul_comm 8 T]
  rw [e3, rung_V, Nat.min_eq_left (by omega)]

theorem V_half (x : Nat) (hb : 6 * 2 ^ 52 ≤ x) : V (x - 2 ^ 52) * 2 = V x := by
  rw [← V_dbl]
  unfold dbl
  rw [if_neg (by omega)]
  congr 1
  omega

#print axioms div_two
#print axioms mul_sub
end Go.Proofs.Qxb6616096aDoor.Flt
