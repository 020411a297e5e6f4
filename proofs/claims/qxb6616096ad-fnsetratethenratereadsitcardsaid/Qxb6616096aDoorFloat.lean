import Ieee.Arith
namespace Go.Proofs.Qxb6616096aDoor.Flt
open Ieee

/-- 'n / 2 ^ d', to the nearest, ties to even. -/
def rne (n d : Nat) : Nat :=
  n / 2 ^ d + (if 2 ^ d < 2 * (n % 2 ^ d) ∨ (2 ^ d = 2 * (n % 2 ^ d) ∧ n / 2 ^ d % 2 = 1) then 1 else 0)

theorem toNat_or (a b c : Bool) : (a || (b && c)).toNat = if a = true ∨ (b = true ∧ c = true) then 1 else 0 := by
  cases a <;> cases b <;> cases c <;> rfl

theorem log2_lt_pow (n : Nat) : n < 2 ^ (n.log2 + 1) := by
  by_cases h : n = 0
  · subst h; exact Nat.two_pow_pos _
  · exact (Nat.log2_lt h).1 (Nat.lt_succ_self _)

theorem pow_log2_le (n : Nat) (h : n ≠ 0) : 2 ^ n.log2 ≤ n := Nat.log2_self_le h

theorem cut_even (neg : Bool) (n d : Nat) : Toward.even.cut neg n d = rne n d := by
  unfold Toward.cut rne
  simp only [Nat.one_shiftLeft]
  by_cases h : d ≤ n.log2 + 2
  · rw [Nat.min_eq_left h, toNat_or]
    simp only [decide_eq_true_eq, beq_iff_eq]
  · rw [Nat.min_eq_right (by omega)]
    have h1 := log2_lt_pow n
    have h2 : 2 ^ (n.log2 + 2) = 2 * 2 ^ (n.log2 + 1) := by rw [Nat.pow_succ]; omega
    have h3 : 2 ^ (n.log2 + 2) ≤ 2 ^ d := Nat.pow_le_pow_right (by omega) (by omega)
    rw [toNat_or]
    simp only [decide_eq_true_eq, beq_iff_eq]
    rw [Nat.div_eq_of_lt (by omega : n < 2 ^ (n.log2 + 2)), Nat.mod_eq_of_lt (by omega : n < 2 ^ (n.log2 + 2)),
      Nat.div_eq_of_lt (by omega : n < 2 ^ d), Nat.mod_eq_of_lt (by omega : n < 2 ^ d)]
    rw [if_neg (by omega), if_neg (by omega)]

theorem rne_le (n d : Nat) : rne n d ≤ n / 2 ^ d + 1 := by unfold rne; split <;> omega
theorem le_rne (n d : Nat) : n / 2 ^ d ≤ rne n d := by unfold rne; split <;> omega

theorem rne_mono {n m : Nat} (d : Nat) (h : n ≤ m) : rne n d ≤ rne m d := by
  have g : 0 < 2 ^ d := Nat.two_pow_pos d
  have hq : n / 2 ^ d ≤ m / 2 ^ d := Nat.div_le_div_right h
  rcases Nat.lt_or_eq_of_le hq with hl | he
  · exact Nat.le_trans (rne_le n d) (Nat.le_trans hl (le_rne m d))
  · have e1 := Nat.div_add_mod n (2 ^ d)
    have e2 := Nat.div_add_mod m (2 ^ d)
    have hr : n % 2 ^ d ≤ m % 2 ^ d := by rw [he] at e1; omega
    have hm := Nat.mod_lt m g
    unfold rne
    rw [he]
    generalize n % 2 ^ d = r at *
    generalize m % 2 ^ d = s at *
    generalize m / 2 ^ d = q at *
    generalize 2 ^ d = G at *
    split <;> split <;> omega

theorem rne_exact (k d : Nat) : rne (k * 2 ^ d) d = k := by
  unfold rne
  have g : 0 < 2 ^ d := Nat.two_pow_pos d
  rw [Nat.mul_div_cancel _ g, Nat.mul_mod_left, if_neg (by omega)]
  rfl

theorem rne_zero (n : Nat) : rne n 0 = n := by
  have := rne_exact n 0
  simpa using this

theorem rne_scale (n d k : Nat) : rne (n * 2 ^ k) (d + k) = rne n d := by
  unfold rne
  have g : 0 < 2 ^ k := Nat.two_pow_pos k
  rw [Nat.pow_add, Nat.mul_div_mul_right _ _ g, Nat.mul_mod_mul_right]
  congr 1
  have e : 2 * (n % 2 ^ d * 2 ^ k) = (2 * (n % 2 ^ d)) * 2 ^ k := by rw [Nat.mul_assoc]
  rw [e]
  have a : (2 ^ d * 2 ^ k < 2 * (n % 2 ^ d) * 2 ^ k) ↔ (2 ^ d < 2 * (n % 2 ^ d)) := Nat.mul_lt_mul_right g
  have b : (2 ^ d * 2 ^ k = 2 * (n % 2 ^ d) * 2 ^ k) ↔ (2 ^ d = 2 * (n % 2 ^ d)) :=
    ⟨fun h => Nat.eq_of_mul_eq_mul_right g h, fun h => congrArg (· * 2 ^ k) h⟩
  simp only [a, b]

theorem rne_le_of_lt {n k d : Nat} (h : n ≤ k * 2 ^ d) : rne n d ≤ k := by
  have := rne_mono d h
  rwa [rne_exact] at this

theorem le_rne_of_le {n k d : Nat} (h : k * 2 ^ d ≤ n) : k ≤ rne n d := by
  have := rne_mono d h
  rwa [rne_exact] at this

theorem log2_eq {n k : Nat} (h1 : 2 ^ k ≤ n) (h2 : n < 2 ^ (k + 1)) : n.log2 = k := by
  have hp : 0 < 2 ^ k := Nat.two_pow_pos k
  have hn : n ≠ 0 := by omega
  have a : n.log2 < k + 1 := (Nat.log2_lt hn).2 h2
  have b : k ≤ n.log2 := (Nat.le_log2 hn).2 h1
  omega

theorem log2_mul_pow (n k : Nat) (h : n ≠ 0) : (n * 2 ^ k).log2 = n.log2 + k := by
  have g : 0 < 2 ^ k := Nat.two_pow_pos k
  apply log2_eq
  · rw [Nat.pow_add]; exact Nat.mul_le_mul_right _ (pow_log2_le n h)
  · rw [show n.log2 + k + 1 = (n.log2 + 1) + k from by omega, Nat.pow_add]
    exact (Nat.mul_lt_mul_right g).2 (log2_lt_pow n)

theorem log2_mono {n m : Nat} (h : n ≤ m) : n.log2 ≤ m.log2 := by
  by_cases hn : n = 0
  · subst hn; simp
  · exact (Nat.le_log2 (by omega)).2 (Nat.le_trans (pow_log2_le n hn) h)

/-- The rung of the number 'N * 2 ^ b' (double precision, no lid). -/
def rung (b : Int) (N : Nat) : Nat :=
  if N = 0 then 0 else
  (max (b + N.log2 - 52) (-1074) + 1074).toNat * 2 ^ 52 + rne N (max (b + N.log2 - 52) (-1074) - b).toNat

theorem leastPlace_eq : double.leastPlace = -1074 := by decide
theorem binade_eq : double.binade = 2 ^ 52 := rfl

theorem shl_eq (n k : Nat) : n <<< k = n * 2 ^ k := Nat.shiftLeft_eq n k

theorem nearest_rung (neg : Bool) (mag : Nat) (place b : Int) (hb : b ≤ place) (hb' : b ≤ -1074) :
    double.nearest neg mag place = double.word neg (min (rung b (mag * 2 ^ (place - b).toNat)) double.infRung) := by
  unfold Format.nearest rung
  rw [leastPlace_eq, binade_eq]
  have g : 0 < 2 ^ (place - b).toNat := Nat.two_pow_pos _
  by_cases h0 : mag = 0
  · rw [if_pos h0, if_pos (by rw [h0, Nat.zero_mul]), Nat.zero_min]
  · have h1 : mag * 2 ^ (place - b).toNat ≠ 0 := Nat.mul_ne_zero h0 (by omega)
    rw [if_neg h0, if_neg h1, log2_mul_pow _ _ h0]
    have el : b + ((mag.log2 + (place - b).toNat : Nat) : Int) - 52 = place + (mag.log2 : Int) - 52 := by omega
    rw [el]
    have ef : ((double.fractionBits : Nat) : Int) = 52 := rfl
    simp only [ef, cut_even, shl_eq]
    generalize hL : max (place + (mag.log2 : Int) - 52) (-1074) = L
    have hLb : b ≤ L := by omega
    have er : (L - -1074).toNat = (L + 1074).toNat := by congr 1
    rw [er]
    congr 2
    congr 1
    by_cases hp : L ≤ place
    · rw [show (L - place).toNat = 0 from by omega, rne_zero]
      rw [show (place - b).toNat = (place - L).toNat + (L - b).toNat from by omega, Nat.pow_add, ← Nat.mul_assoc, rne_exact]
    · rw [show (place - L).toNat = 0 from by omega, Nat.pow_zero, Nat.mul_one]
      rw [show (L - b).toNat = (L - place).toNat + (place - b).toNat from by omega, rne_scale]

theorem rung_mono {N M : Nat} (b : Int) (hb : b ≤ -1074) (h : N ≤ M) : rung b N ≤ rung b M := by
  unfold rung
  by_cases h0 : N = 0
  · rw [if_pos h0]; exact Nat.zero_le _
  · have hM : M ≠ 0 := by omega
    rw [if_neg h0, if_neg hM]
    have hl := log2_mono h
    generalize hA : max (b + (N.log2 : Int) - 52) (-1074) = A
    generalize hB : max (b + (M.log2 : Int) - 52) (-1074) = B
    have hAB : A ≤ B := by omega
    rcases Int.lt_or_eq_of_le hAB with hlt | heq
    · -- a lower binade
      have k1 : rne N (A - b).toNat ≤ 2 ^ 53 := by
        apply rne_le_of_lt
        rw [← Nat.pow_add]
        refine Nat.le_trans (Nat.le_of_lt (log2_lt_pow N)) (Nat.pow_le_pow_right (by omega) (by omega))
      have k2 : 2 ^ 52 ≤ rne M (B - b).toNat := by
        apply le_rne_of_le
        rw [← Nat.pow_add]
        refine Nat.le_trans (Nat.pow_le_pow_right (by omega) (by omega)) (pow_log2_le M hM)
      have k3 : (A + 1074).toNat + 1 ≤ (B + 1074).toNat := by omega
      have k4 : ((A + 1074).toNat + 1) * 2 ^ 52 ≤ (B + 1074).toNat * 2 ^ 52 := Nat.mul_le_mul_right _ k3
      omega
    · subst heq
      have := rne_mono (A - b).toNat h
      omega

/-- What a word without a sign stands for, in units of '2 ^ -1074' (a finite one). -/
def mg (x : Nat) : Nat := if x < 2 ^ 52 then x else 2 ^ 52 + x % 2 ^ 52
def ex (x : Nat) : Nat := x / 2 ^ 52 - 1
def V (x : Nat) : Nat := mg x * 2 ^ ex x

theorem rung_V (x : Nat) : rung (-1074) (V x) = x := by
  unfold V mg ex
  by_cases h : x < 2 ^ 52
  · rw [if_pos h, Nat.div_eq_of_lt h, show 0 - 1 = 0 from rfl, Nat.pow_zero, Nat.mul_one]
    unfold rung
    by_cases h0 : x = 0
    · rw [if_pos h0, h0]
    · rw [if_neg h0]
      have hl : x.log2 < 52 := (Nat.log2_lt h0).2 h
      rw [show max ((-1074 : Int) + (x.log2 : Int) - 52) (-1074) = -1074 from by omega]
      rw [show ((-1074 : Int) - -1074).toNat = 0 from by omega, show ((-1074 : Int) + 1074).toNat = 0 from by omega, rne_zero]
      omega
  · rw [if_neg h]
    have hm := Nat.mod_lt x (Nat.two_pow_pos 52)
    have hd := Nat.div_add_mod x (2 ^ 52)
    have hq : 1 ≤ x / 2 ^ 52 := by omega
    generalize x / 2 ^ 52 = q at *
    generalize x % 2 ^ 52 = r at *
    unfold rung
    have hne : 2 ^ 52 + r ≠ 0 := by omega
    have g : 0 < 2 ^ (q - 1) := Nat.two_pow_pos _
    rw [if_neg (Nat.mul_ne_zero hne (by omega)), log2_mul_pow _ _ hne,
      log2_eq (k := 52) (by omega) (by omega)]
    rw [show max ((-1074 : Int) + ((52 + (q - 1) : Nat) : Int) - 52) (-1074) = -1074 + ((q - 1 : Nat) : Int) from by omega]
    rw [show ((-1074 : Int) + ((q - 1 : Nat) : Int) - -1074).toNat = q - 1 from by omega, rne_exact,
      show ((-1074 : Int) + ((q - 1 : Nat) : Int) + 1074).toNat = q - 1 from by omega]
    omega

theorem V_lt_iff (x y : Nat) : V x < V y ↔ x < y := by
  have m : ∀ a b : Nat, V a ≤ V b → a ≤ b := by
    intro a b h
    have := rung_mono (-1074) (by omega) h
    rwa [rung_V, rung_V] at this
  constructor
  · intro h
    have h1 := m x y (by omega)
    rcases Nat.lt_or_eq_of_le h1 with h2 | h2
    · exact h2
    · subst h2; omega
  · intro h
    apply Nat.lt_of_not_le
    intro h2
    have := m y x h2
    omega

theorem V_le_iff (x y : Nat) : V x ≤ V y ↔ x ≤ y := by
  have := V_lt_iff y x
  omega

theorem infRung_eq : double.infRung = 2047 * 2 ^ 52 := rfl
theorem signWeight_eq : double.signWeight = 2 ^ 63 := rfl

theorem read_fin (x : Nat) (h : x < 2047 * 2 ^ 52) : double.read x = .number false (mg x) ((ex x : Int) - 1074) := by
  unfold Format.read mg ex
  rw [leastPlace_eq, binade_eq, infRung_eq, signWeight_eq]
  rw [Nat.div_eq_of_lt (show x < 2 ^ 63 by omega), Nat.mod_eq_of_lt (show x < 2 ^ 63 by omega)]
  by_cases h1 : x < 2 ^ 52
  · simp only [if_pos h1, Nat.div_eq_of_lt h1]; rfl
  · simp only [if_neg h1, if_pos h]
    congr 1

theorem read_inf : double.read (2047 * 2 ^ 52) = .infinity false := by decide
theorem read_negzero : double.read (2 ^ 63) = .number true 0 (-1074) := by decide


/-- A word that is not below zero and no NaN: zero and above, infinity, or the negative zero. -/
def NN (x : Nat) : Prop := x ≤ 2047 * 2 ^ 52 ∨ x = 2 ^ 63
/-- Its rung. -/
def rg (x : Nat) : Nat := if x = 2 ^ 63 then 0 else x

theorem V_zero : V 0 = 0 := by decide

theorem compare_mul (a b k : Nat) : compare (((a * 2 ^ k : Nat) : Int)) (((b * 2 ^ k : Nat) : Int)) = compare a b := by
  have g : 0 < 2 ^ k := Nat.two_pow_pos k
  have h1 : a * 2 ^ k < b * 2 ^ k ↔ a < b := Nat.mul_lt_mul_right g
  have h2 : b * 2 ^ k < a * 2 ^ k ↔ b < a := Nat.mul_lt_mul_right g
  rcases Nat.lt_trichotomy a b with h | h | h
  · rw [Nat.compare_eq_lt.2 h]
    simp only [compare, compareOfLessAndEq]
    rw [if_pos (by have := h1.2 h; omega)]
  · subst h
    rw [Nat.compare_eq_eq.2 rfl]
    simp only [compare, compareOfLessAndEq]
    rw [if_neg (by omega)]
    simp
  · rw [Nat.compare_eq_gt.2 h]
    simp only [compare, compareOfLessAndEq]
    rw [if_neg (by have := h2.2 h; omega), if_neg (by have := h2.2 h; omega)]

theorem compare_nat_int (a b : Nat) : compare ((a : Int)) ((b : Int)) = compare a b := by
  have := compare_mul a b 0
  simpa using this

theorem compare_V (x y : Nat) : compare (V x) (V y) = compare x y := by
  rcases Nat.lt_trichotomy x y with h | h | h
  · rw [Nat.compare_eq_lt.2 h, Nat.compare_eq_lt.2 ((V_lt_iff x y).2 h)]
  · subst h; rw [Nat.compare_eq_eq.2 rfl, Nat.compare_eq_eq.2 rfl]
  · rw [Nat.compare_eq_gt.2 h, Nat.compare_eq_gt.2 ((V_lt_iff y x).2 h)]

/-- Two numbers over one base. -/
theorem base_V (m e b : Nat) (hb : b ≤ e) : m * 2 ^ (((e : Int) - 1074) - ((b : Int) - 1074)).toNat * 2 ^ b = m * 2 ^ e := by
  rw [Nat.mul_assoc, ← Nat.pow_add]
  congr 2
  omega

theorem order_fin (x y : Nat) (hx : x < 2047 * 2 ^ 52) (hy : y < 2047 * 2 ^ 52) : double.order x y = some (compare x y) := by
  unfold Format.order
  rw [read_fin x hx, read_fin y hy]
  simp only [Datum.order]
  congr 1
  rw [show min ((ex x : Int) - 1074) ((ex y : Int) - 1074) = ((min (ex x) (ex y) : Nat) : Int) - 1074 from by omega]
  unfold signed
  simp only [Bool.false_eq_true, if_false, shl_eq]
  rw [compare_nat_int, ← compare_mul _ _ (min (ex x) (ex y)), compare_nat_int]
  rw [base_V _ _ _ (Nat.min_le_left _ _), base_V _ _ _ (Nat.min_le_right _ _)]
  exact compare_V x y

theorem signed_true_zero (k : Nat) : signed true 0 k = 0 := by simp [signed]
theorem signed_false (m k : Nat) : signed false m k = ((m * 2 ^ k : Nat) : Int) := by simp [signed, shl_eq]

theorem mg_pos (x : Nat) (h : 0 < x) : 0 < mg x := by unfold mg; split <;> omega

theorem order_nn (x y : Nat) (hx : NN x) (hy : NN y) : double.order x y = some (compare (rg x) (rg y)) := by
  have zpos : ∀ k : Nat, 0 < 2 ^ k := Nat.two_pow_pos
  have eq0 : ∀ y : Nat, y < 2047 * 2 ^ 52 → ∀ k : Nat, compare (0 : Int) ((mg y * 2 ^ k : Nat) : Int) = compare 0 y := by
    intro y _ k
    rw [show (0 : Int) = ((0 * 2 ^ k : Nat) : Int) from by simp, compare_mul]
    rcases Nat.eq_zero_or_pos y with h | h
    · subst h; rfl
    · rw [Nat.compare_eq_lt.2 h, Nat.compare_eq_lt.2 (mg_pos y h)]
  have eq0' : ∀ y : Nat, y < 2047 * 2 ^ 52 → ∀ k : Nat, compare ((mg y * 2 ^ k : Nat) : Int) (0 : Int) = compare y 0 := by
    intro y _ k
    rw [show (0 : Int) = ((0 * 2 ^ k : Nat) : Int) from by simp, compare_mul]
    rcases Nat.eq_zero_or_pos y with h | h
    · subst h; rfl
    · rw [Nat.compare_eq_gt.2 h, Nat.compare_eq_gt.2 (mg_pos y h)]
  rcases hx with hx | hx
  · rcases hy with hy | hy
    · rw [show rg x = x from if_neg (by omega), show rg y = y from if_neg (by omega)]
      rcases Nat.lt_or_eq_of_le hx with hx | hx <;> rcases Nat.lt_or_eq_of_le hy with hy | hy
      · exact order_fin x y hx hy
      · subst hy
        unfold Format.order
        rw [read_fin x hx, read_inf, Nat.compare_eq_lt.2 hx]; rfl
      · subst hx
        unfold Format.order
        rw [read_fin y hy, read_inf, Nat.compare_eq_gt.2 hy]; rfl
      · subst hx hy; decide
    · subst hy
      rw [show rg x = x from if_neg (by omega), show rg (2 ^ 63) = 0 from rfl]
      rcases Nat.lt_or_eq_of_le hx with hx | hx
      · unfold Format.order
        rw [read_fin x hx, read_negzero]
        simp only [Datum.order, signed_true_zero, signed_false]
        rw [eq0' x hx]
      · subst hx; decide
  · subst hx
    rw [show rg (2 ^ 63) = 0 from rfl]
    rcases hy with hy | hy
    · rw [show rg y = y from if_neg (by omega)]
      rcases Nat.lt_or_eq_of_le hy with hy | hy
      · unfold Format.order
        rw [read_fin y hy, read_negzero]
        simp only [Datum.order, signed_true_zero, signed_false]
        rw [eq0 y hy]
      · subst hy; decide
    · subst hy; decide

theorem nn_of_ge (d : Nat) (hd : d < 2 ^ 64) (h : (double.order d 0 == some .gt || double.order d 0 == some .eq) = true) : NN d := by
  have r0 : double.read 0 = .number false 0 (-1074) := by decide
  by_cases h1 : d ≤ 2047 * 2 ^ 52
  · exact Or.inl h1
  by_cases h2 : d = 2 ^ 63
  · exact Or.inr h2
  exfalso
  revert h
  unfold Format.order
  rw [r0]
  generalize hR : double.read d = R
  unfold Format.read at hR
  rw [leastPlace_eq, binade_eq, infRung_eq, signWeight_eq] at hR
  by_cases h3 : d < 2 ^ 63
  · rw [Nat.div_eq_of_lt h3, Nat.mod_eq_of_lt h3] at hR
    simp only [if_neg (show ¬ d < 2 ^ 52 by omega), if_neg (show ¬ d < 2047 * 2 ^ 52 by omega), if_neg (show ¬ d = 2047 * 2 ^ 52 by omega)] at hR
    subst hR
    simp [Datum.order]
  · have e1 : d / 2 ^ 63 = 1 := by omega
    have e2 : d % 2 ^ 63 = d - 2 ^ 63 := by omega
    rw [e1, e2] at hR
    simp only [show ((1 % 2 : Nat) == 1) = true from rfl] at hR
    have neg : ∀ (m : Nat) (p : Int), 0 < m → ¬ ((Datum.order (.number true m p) (.number false 0 (-1074)) == some .gt || Datum.order (.number true m p) (.number false 0 (-1074)) == some .eq) = true) := by
      intro m p hm
      simp only [Datum.order, signed_false, Nat.zero_mul]
      generalize (p - min p (-1074)).toNat = k
      have g : 0 < 2 ^ k := Nat.two_pow_pos k
      have hs : signed true m k = -((m * 2 ^ k : Nat) : Int) := by simp [signed, shl_eq]
      have hp : 0 < m * 2 ^ k := Nat.mul_pos hm g
      rw [hs]
      have hc : compare (-((m * 2 ^ k : Nat) : Int)) ((0 : Nat) : Int) = .lt := by
        simp only [compare, compareOfLessAndEq]
        rw [if_pos (by omega)]
      rw [hc]
      decide
    by_cases h4 : d - 2 ^ 63 < 2 ^ 52
    · rw [if_pos h4] at hR; subst hR; exact neg _ _ (by omega)
    · rw [if_neg h4] at hR
      by_cases h5 : d - 2 ^ 63 < 2047 * 2 ^ 52
      · rw [if_pos h5] at hR; subst hR; exact neg _ _ (by omega)
      · rw [if_neg h5] at hR
        by_cases h6 : d - 2 ^ 63 = 2047 * 2 ^ 52
        · rw [if_pos h6] at hR; subst hR; simp [Datum.order]
        · rw [if_neg h6] at hR; subst hR; simp [Datum.order]

theorem word_false (n : Nat) : double.word false n = n := rfl
theorem word_true_zero : double.word true 0 = 2 ^ 63 := by decide

theorem mul_fin (x y : Nat) (hx : x < 2047 * 2 ^ 52) (hy : y < 2047 * 2 ^ 52) :
    double.mul x y = some (min (rung (-2148) (V x * V y)) (2047 * 2 ^ 52)) := by
  unfold Format.mul
  rw [read_fin x hx, read_fin y hy]
  simp only [Datum.product, Option.map_some, Format.write, Bool.xor_false]
  rw [nearest_rung _ _ _ (-2148) (by omega) (by omega), word_false, infRung_eq]
  congr 3
  unfold V
  rw [show (((ex x : Int) - 1074) + ((ex y : Int) - 1074) - -2148).toNat = ex x + ex y from by omega, Nat.pow_add]
  ac_rfl

theorem mul_negzero (y : Nat) (hy : y < 2047 * 2 ^ 52) : double.mul (2 ^ 63) y = some (2 ^ 63) := by
  unfold Format.mul
  rw [read_fin y hy, read_negzero]
  simp only [Datum.product, Option.map_some, Format.write, Bool.xor_false, Nat.zero_mul]
  unfold Format.nearest
  rw [if_pos rfl, word_true_zero]

theorem mul_inf_zero : double.mul (2047 * 2 ^ 52) 0 = none := by decide

theorem mul_inf (y : Nat) (h0 : 0 < y) (hy : y < 2047 * 2 ^ 52) : double.mul (2047 * 2 ^ 52) y = some (2047 * 2 ^ 52) := by
  unfold Format.mul
  rw [read_fin y hy, read_inf]
  have := mg_pos y h0
  simp only [Datum.product]
  rw [if_neg (by omega)]
  rfl

theorem add_fin (x y : Nat) (hx : x < 2047 * 2 ^ 52) (hy : y < 2047 * 2 ^ 52) :
    double.add x y = some (min (rung (-1074) (V x + V y)) (2047 * 2 ^ 52)) := by
  unfold Format.add
  rw [read_fin x hx, read_fin y hy]
  simp only [Datum.sum, Option.map_some, Format.write, signed_false]
  rw [show min ((ex x : Int) - 1074) ((ex y : Int) - 1074) = ((min (ex x) (ex y) : Nat) : Int) - 1074 from by omega]
  have e1 := base_V (mg x) (ex x) (min (ex x) (ex y)) (Nat.min_le_left _ _)
  have e2 := base_V (mg y) (ex y) (min (ex x) (ex y)) (Nat.min_le_right _ _)
  generalize mg x * 2 ^ ((ex x : Int) - 1074 - (((min (ex x) (ex y) : Nat) : Int) - 1074)).toNat = A at *
  generalize mg y * 2 ^ ((ex y : Int) - 1074 - (((min (ex x) (ex y) : Nat) : Int) - 1074)).toNat = B at *
  have hneg : (if ((A : Int) + (B : Int)) = 0 then (false && false) else decide ((A : Int) + (B : Int) < 0)) = false := by
    split
    · rfl
    · simp; omega
  rw [hneg, nearest_rung _ _ _ (-1074) (by omega) (by omega), word_false, infRung_eq]
  congr 3
  rw [show ((A : Int) + (B : Int)).natAbs = A + B from by omega,
    show (((min (ex x) (ex y) : Nat) : Int) - 1074 - -1074).toNat = min (ex x) (ex y) from by omega, Nat.add_mul, e1, e2]
  rfl

/-- One, in units of the last place of a subnormal number. -/
def top : Nat := 1074
def U : Nat := 2 ^ top
theorem pow_U (k : Nat) (h : k = 1074) : 2 ^ k = U := by unfold U; rw [show k = top from h]
theorem U_pos : 0 < U := by unfold U; exact Nat.two_pow_pos top

theorem cut_zero (neg : Bool) (n d : Nat) : Toward.zero.cut neg n d = n / 2 ^ d := by
  unfold Toward.cut
  simp only [Nat.one_shiftLeft, Bool.toNat_false, Nat.add_zero]
  by_cases h : d ≤ n.log2 + 2
  · rw [Nat.min_eq_left h]
  · rw [Nat.min_eq_right (by omega)]
    have h1 := log2_lt_pow n
    have h2 : 2 ^ (n.log2 + 1) ≤ 2 ^ (n.log2 + 2) := Nat.pow_le_pow_right (by omega) (by omega)
    have h3 : 2 ^ (n.log2 + 1) ≤ 2 ^ d := Nat.pow_le_pow_right (by omega) (by omega)
    rw [Nat.div_eq_of_lt (by omega), Nat.div_eq_of_lt (by omega)]

theorem shift_div (m e u : Nat) : m * 2 ^ (((e : Int) - (u : Int)).toNat) / 2 ^ ((-((e : Int) - (u : Int))).toNat) = m * 2 ^ e / 2 ^ u := by
  by_cases h : u ≤ e
  · rw [show (-((e : Int) - (u : Int))).toNat = 0 from by omega, Nat.pow_zero, Nat.div_one]
    rw [show e = ((e : Int) - (u : Int)).toNat + u from by omega, Nat.pow_add, ← Nat.mul_assoc, Nat.mul_div_cancel _ (Nat.two_pow_pos u)]
    congr 2
    omega
  · rw [show ((e : Int) - (u : Int)).toNat = 0 from by omega, Nat.pow_zero, Nat.mul_one]
    rw [show u = (-((e : Int) - (u : Int))).toNat + e from by omega, Nat.pow_add, Nat.mul_div_mul_right _ _ (Nat.two_pow_pos e)]
    congr 2
    omega

theorem toInt_fin (x : Nat) (hx : x < 2047 * 2 ^ 52) : (double.read x).toInt .zero = some ((V x / U : Nat) : Int) := by
  rw [read_fin x hx]
  simp only [Datum.toInt, Datum.integral, cut_zero, signed_false, shl_eq, Nat.pow_zero, Nat.mul_one]
  have := shift_div (mg x) (ex x) top
  rw [show ((top : Nat) : Int) = 1074 from rfl] at this
  rw [this]
  rfl

theorem toInt_negzero : (double.read (2 ^ 63)).toInt .zero = some 0 := by decide

theorem ofNat_rung (n : Nat) : double.write (.number false n 0) = min (rung (-1074) (n * U)) (2047 * 2 ^ 52) := by
  show double.nearest false n 0 = _
  rw [nearest_rung _ _ _ (-1074) (by omega) (by omega), word_false, infRung_eq]
  rw [pow_U _ (by omega)]

/-- A word for every whole number below 2 ^ 53. -/
theorem exact_word (n : Nat) (h : n < 2 ^ 53) : ∃ e, V e = n * U := by
  by_cases h0 : n = 0
  · exact ⟨0, by rw [h0, V_zero, Nat.zero_mul]⟩
  have hl : n.log2 < 53 := (Nat.log2_lt h0).2 h
  have h1 := pow_log2_le n h0
  have h2 := log2_lt_pow n
  have k1 : 2 ^ 52 ≤ n * 2 ^ (52 - n.log2) := by
    have : 2 ^ 52 = 2 ^ n.log2 * 2 ^ (52 - n.log2) := by rw [← Nat.pow_add]; congr 1; omega
    rw [this]; exact Nat.mul_le_mul_right _ h1
  have k2 : n * 2 ^ (52 - n.log2) < 2 ^ 53 := by
    have : 2 ^ 53 = 2 ^ (n.log2 + 1) * 2 ^ (52 - n.log2) := by rw [← Nat.pow_add]; congr 1; omega
    rw [this]; exact (Nat.mul_lt_mul_right (Nat.two_pow_pos _)).2 h2
  refine ⟨(n.log2 + 1023) * 2 ^ 52 + (n * 2 ^ (52 - n.log2) - 2 ^ 52), ?_⟩
  have hL : n.log2 ≤ 52 := by omega
  have fin : n * 2 ^ (52 - n.log2) * 2 ^ (n.log2 + 1022) = n * U := by
    rw [Nat.mul_assoc, ← Nat.pow_add, pow_U _ (by omega)]
  generalize n * 2 ^ (52 - n.log2) = m at *
  have d1 : ((n.log2 + 1023) * 2 ^ 52 + (m - 2 ^ 52)) / 2 ^ 52 = n.log2 + 1023 := by omega
  have d2 : ((n.log2 + 1023) * 2 ^ 52 + (m - 2 ^ 52)) % 2 ^ 52 = m - 2 ^ 52 := by omega
  unfold V mg ex
  rw [if_neg (by omega), d1, d2, show 2 ^ 52 + (m - 2 ^ 52) = m from by omega,
    show n.log2 + 1023 - 1 = n.log2 + 1022 from by omega, fin]

end Go.Proofs.Qxb6616096aDoor.Flt
