import Derived.Test.Qxb6616096aDoorRate
namespace Go.Proofs.Qxb6616096aDoor
open Go.RowKit
set_option linter.unusedVariables false
set_option linter.unusedSimpArgs false
set_option maxRecDepth 100000
open Pl Flt Ieee

namespace Pl
theorem odd_unique {m z m' z' : Nat} (h : m * 2 ^ z = m' * 2 ^ z') (hm : m % 2 = 1) (hm' : m' % 2 = 1) : m = m' ∧ z = z' := by
  have key : ∀ {m z m' z' : Nat}, m * 2 ^ z = m' * 2 ^ z' → m % 2 = 1 → ¬ z < z' := by
    intro m z m' z' h hm hlt
    have e : m' * 2 ^ z' = m' * 2 ^ (z' - z - 1) * 2 * 2 ^ z := by
      rw [Nat.mul_assoc, Nat.mul_assoc, ← Nat.pow_succ', ← Nat.pow_add]
      congr 2
      omega
    rw [e] at h
    have := Nat.eq_of_mul_eq_mul_right (Nat.two_pow_pos z) h
    omega
  have hz : z = z' := by
    have h1 := key h hm
    have h2 := key h.symm hm'
    omega
  subst hz
  exact ⟨Nat.eq_of_mul_eq_mul_right (Nat.two_pow_pos z) h, rfl⟩

/-- The exact denominator where it is a word, else 0. -/
def denOf (o : Nat) (e : Int) : Nat := if o * 2 ^ (max (-e) 0).toNat < 18446744073709551616 then o * 2 ^ (max (-e) 0).toNat else 0

theorem den_test (o s : Nat) (ho : 0 < o) : o ≤ 18446744073709551615 / 2 ^ min s 64 ↔ o * 2 ^ s < 18446744073709551616 := by
  rw [Nat.le_div_iff_mul_le (Nat.two_pow_pos _)]
  by_cases hs : s < 64
  · rw [show min s 64 = s from by omega]; omega
  · rw [show min s 64 = 64 from by omega]
    have h1 : o * 2 ^ 64 ≤ o * 2 ^ s := Nat.mul_le_mul_left _ (Nat.pow_le_pow_right (by omega) (by omega))
    have h2 : 2 ^ 64 ≤ o * 2 ^ 64 := Nat.le_mul_of_pos_left _ ho
    constructor
    · intro h; omega
    · intro h; omega
end Pl

/-- What the walk is told of the tables. -/
def Tab (w : World) : Prop := TabAt 1 Lib.deBruijn64tab w ∧ 1 < w.heap.size

theorem Tab.below {w w' : World} (h : Tab w) (hb : Below w.heap.size w w') : Tab w' :=
  ⟨fun j hj => by rw [hb.cell (p := ⟨1, j, Option.none⟩) h.2]; exact h.1 j hj, Nat.lt_of_lt_of_le h.2 hb.size⟩

/-- The words of a positive finite double. -/
theorem split_pos (t : Nat) (h0 : 0 < t) (ht : t < 9218868437227405312) : ∃ (y E F : Nat) (d : Int), Norm t y d ∧ (t < 4503599627370496 → double.mul t 4841369599423283200 = some y) ∧
    y = E * 4503599627370496 + F ∧ 1 ≤ E ∧ E < 2047 ∧ F < 4503599627370496 ∧ -52 ≤ d ∧ d ≤ 0 ∧ V t * 2 ^ (-d).toNat = (4503599627370496 + F) * 2 ^ (E - 1) := by
  obtain ⟨y, d, hN, hM⟩ := norm_ex t h0
  have hy : 4503599627370496 ≤ y ∧ y < 9218868437227405312 ∧ -52 ≤ d ∧ d ≤ 0 ∧ V t * 2 ^ (-d).toNat = V y := by
    rcases hN with ⟨h1, rfl, rfl⟩ | ⟨h1, h2, rfl, h3, h4⟩
    · exact ⟨h1, ht, by omega, by omega, by simp⟩
    · exact ⟨h3, by omega, by omega, by omega, by rw [h2]; rfl⟩
  obtain ⟨hy1, hy2, hd1, hd2, hV⟩ := hy
  refine ⟨y, y / 4503599627370496, y % 4503599627370496, d, hN, hM, by omega, by omega, by omega, by omega, hd1, hd2, ?_⟩
  rw [hV]
  unfold V mg ex
  have h52 : ¬ y < 2 ^ 52 := by omega
  rw [if_neg h52]

theorem rate_c (t : Nat) (burst per : Int) (m z o k : Nat) (h0 : 0 < t) (ht : t < 9218868437227405312) (hb1 : 0 ≤ burst) (hb2 : burst < 18446744073709551616) (hp1 : 0 < per) (hp2 : per < 9223372036854775808)
    (hV : V t = m * 2 ^ z) (hm : m % 2 = 1) (hP : per = ((o * 2 ^ k : Nat) : Int)) (ho : o % 2 = 1) (w : World) (hT : Tab w) :
    Calls Tryd.prog 23 #[.agg #[.int .i64 burst, .float .f64 t, .int .i64 per]] w fun e' w' =>
      e' = .returned (.agg #[.int .u64 (m : Int), .int .u64 (o : Int), .int .i64 ((z : Int) - 1074 - (k : Int)), .int .u64 ((denOf o ((z : Int) - 1074 - (k : Int)) : Nat) : Int), .int .u64 ((fillOf burst.toNat o m ((z : Int) - 1074 - (k : Int)) : Nat) : Int)]) ∧ Below w.heap.size w w' := by
  obtain ⟨y, E, F, d, hN, hM, hE, hE1, hE2, hF, hd1, hd2, hVt⟩ := split_pos t h0 ht
  obtain ⟨M, hMd⟩ : ∃ M, M = 4503599627370496 + F := ⟨_, rfl⟩
  obtain ⟨P, hPd⟩ : ∃ P, P = o * 2 ^ k := ⟨_, rfl⟩
  rw [← hMd] at hVt
  rw [← hPd] at hP
  have hP64 : P < 2 ^ 64 := by omega
  have hP0 : 0 < P := by omega
  obtain ⟨ma, hma, ha⟩ := ctz_spec M (by omega) (by omega)
  obtain ⟨oa, hoa, hk⟩ := ctz_spec P hP0 hP64
  obtain ⟨a, had⟩ : ∃ a, a = Lib.ctz 64 M := ⟨_, rfl⟩
  obtain ⟨k', hkd⟩ : ∃ k', k' = Lib.ctz 64 P := ⟨_, rfl⟩
  rw [← had] at hma ha
  rw [← hkd] at hoa hk
  obtain ⟨ho1, hk1⟩ := Pl.odd_unique (m := o) (z := k) (m' := 2 * oa + 1) (z' := k') (by rw [← hPd]; exact hoa) ho (by omega)
  have hz : m * 2 ^ (z + (-d).toNat) = (2 * ma + 1) * 2 ^ (a + (E - 1)) := by
    rw [Nat.pow_add, ← Nat.mul_assoc, ← hV, hVt, hma, Nat.pow_add, Nat.mul_assoc]
  obtain ⟨hm1, hz1⟩ := Pl.odd_unique hz hm (by omega)
  have hM53 : M < 2 ^ 53 := by omega
  have hmle : m ≤ M := by rw [hm1, hma]; exact Nat.le_mul_of_pos_right _ (Nat.two_pow_pos a)
  have hole : o ≤ P := by rw [hPd]; exact Nat.le_mul_of_pos_right _ (Nat.two_pow_pos k)
  have hm0 : 0 < m := by omega
  have ho0 : 0 < o := by omega
  have hk63 : k < 64 := by omega
  obtain ⟨e, he⟩ : ∃ e : Int, e = (z : Int) - 1074 - (k : Int) := ⟨_, rfl⟩
  rw [← he]
  have he1 : -1300 < e := by omega
  have he2 : e < 3000 := by omega
  obtain ⟨s, hs⟩ : ∃ s : Nat, s = (max (-e) 0).toNat := ⟨_, rfl⟩
  obtain ⟨b, hb⟩ : ∃ b : Nat, b = burst.toNat := ⟨_, rfl⟩
  rw [← hb]
  have hdiv : ∀ x n : Nat, (2 * x + 1) * 2 ^ n / 2 ^ n = 2 * x + 1 := fun x n => Nat.mul_div_cancel _ (Nat.two_pow_pos n)
  refine rate_walk t (1022 * 4503599627370496 + F) (1075 * 4503599627370496 + F) burst per (d + (E : Int) - 1022) (b : Int) (P : Int) (M : Int) (d + (E : Int) - 1075) a k' s (m : Int) (o : Int) ((a : Int) - (k : Int)) e (-e) ((18446744073709551615 / 2 ^ min s 64 : Nat) : Int) _ _ w
    (fun w => Frexp_pos t y E F d h0 ht hN hM hE hE1 hE2 hF hd1 hd2 w) (fun w => Ldexp_53 F hF w)
    (fun w => run_convert_float_int (P := Tryd.prog) w 22 38 .f64 .u64 _ (M : Int) (by rw [Tryd.underlying22]; rfl) Tryd.underlying38 (by rw [hMd]; exact toInt_53 F hF))
    ?_ ?_ ?_ ?_ ?_ ?_ ?_ ?_ ?_ ?_ ?_ ?_ ?_ ?_ ?_
  · rw [IntKind.wrap_u64]; omega
  · rw [IntKind.wrap_i64]; omega
  · intro w' hw'
    refine (tz_c M (by omega) (by omega) w' hw').mono ?_
    rintro e w'' ⟨rfl, rfl⟩
    rw [had]; exact ⟨rfl, rfl⟩
  · intro w' hw'
    refine (tz_c P (by omega) (by omega) w' hw').mono ?_
    rintro e w'' ⟨rfl, rfl⟩
    rw [hkd]; exact ⟨rfl, rfl⟩
  · rw [show min a 64 = a from by omega, cast_divpow]
    rw [hm1, hma, hdiv]
  · rw [show min k' 64 = k' from by omega, cast_divpow]
    rw [ho1, hoa, hdiv]
  · rw [IntKind.wrap_i64]; omega
  · rw [IntKind.wrap_i64]; omega
  · rw [IntKind.wrap_i64]; omega
  · omega
  · exact cast_divpow 18446744073709551615 (min s 64)
  · unfold denOf
    rw [← hs]
    by_cases hd : o * 2 ^ s < 18446744073709551616
    · refine .inl ⟨decide_eq_true ((leI _ _).2 ((Pl.den_test o s ho0).2 hd)), ?_⟩
      rw [if_pos hd]
      have hs64 : s < 64 := by
        apply Nat.lt_of_not_le
        intro h64
        have h1 : 2 ^ 64 ≤ 2 ^ s := Nat.pow_le_pow_right (by omega) h64
        have h2 : 2 ^ s ≤ o * 2 ^ s := Nat.le_mul_of_pos_left _ ho0
        omega
      rw [show min s 64 = s from by omega, cast_mulpow, Nat.mod_eq_of_lt hd]
    · refine .inr ⟨decide_eq_false (fun h => hd ((Pl.den_test o s ho0).1 ((leI _ _).1 h))), ?_⟩
      rw [if_neg hd]; rfl
  · rw [IntKind.wrap_u64]; omega
  · intro w
    exact fillTime_c m o b e _ 0 hm0 (by omega) (by omega) (by omega) (by omega) (by omega) w
  · intro w' hb'
    exact (hT.below hb').1

#print axioms rate_c
end Go.Proofs.Qxb6616096aDoor
