import Derived.Test.Qxb6615844aWalk
namespace Go.Proofs.Qxb6615844a
open Go.RowKit
open Ieee Flt

/-- The NaN that the tape gives. -/
def nanOf (x y : Nat) (w : World) : Nat := Question.cut (.nanBits .f64 x y) (w.tape w.drawn (.nanBits .f64 x y))

theorem run_mul_nan (t : TypeId) (x y : Nat) (h : double.mul x y = Option.none) (w : World) :
    (binOp .mul t (.float .f64 x) (.float .f64 y)).run Try.prog w = .ok (.float .f64 (nanOf x y w)) w.drew := by
  have h' : FloatKind.f64.format.mul x y = Option.none := h
  simp [binOp, Op.floatArith, h', nanOf, Question.forced]

theorem order_nan (c y : Nat) (s : Nat) (hs : s < 2) (h1 : 1 ≤ c) (h2 : c < 2 ^ 52) : double.order (s * 2 ^ 63 + 2047 * 2 ^ 52 + c) y = Option.none := by
  unfold Format.order
  have hr : double.read (s * 2 ^ 63 + 2047 * 2 ^ 52 + c) = .nan (s == 1) c := by
    unfold Format.read
    rw [leastPlace_eq, binade_eq, infRung_eq, signWeight_eq]
    rw [show (s * 2 ^ 63 + 2047 * 2 ^ 52 + c) / 2 ^ 63 = s from by omega, show (s * 2 ^ 63 + 2047 * 2 ^ 52 + c) % 2 ^ 63 = 2047 * 2 ^ 52 + c from by omega]
    rw [show s % 2 = s from by omega]
    simp only [if_neg (show ¬ 2047 * 2 ^ 52 + c < 2 ^ 52 by omega), if_neg (show ¬ 2047 * 2 ^ 52 + c < 2047 * 2 ^ 52 by omega), if_neg (show ¬ 2047 * 2 ^ 52 + c = 2047 * 2 ^ 52 by omega)]
    exact congrArg (Datum.nan (s == 1)) (by omega)
  rw [hr]
  cases double.read y <;> rfl

theorem order_nanOf (x y c : Nat) (w : World) : double.order (nanOf x y w) c = Option.none := by
  unfold nanOf Question.cut
  simp only
  generalize w.tape w.drawn (.nanBits .f64 x y) = t
  have := order_nan (1 + (t / 2) % (2 ^ 52 - 1)) c (t % 2) (by omega) (by omega) (by omega)
  exact (congrArg (fun z => double.order z c) (by omega)).trans this


set_option maxHeartbeats 400000 in
theorem nan_00 (d1 d2 : Nat) (n b1 b2 : Int) (w : World) (hn : 0 ≤ n) (hn' : n ≤ 9223372036854775807) (hb1 : 0 ≤ b1) (hb1' : b1 ≤ 9223372036854775807) (hb2 : 0 ≤ b2) (hb2' : b2 ≤ 9223372036854775807) (g1 : (FloatKind.f64.format.order d1 0 == some .gt || FloatKind.f64.format.order d1 0 == some .eq) = true) (g2 : (FloatKind.f64.format.order d2 0 == some .gt || FloatKind.f64.format.order d2 0 == some .eq) = true) (hsd : (FloatKind.f64.format.order d2 d1 == some .lt) = false) (hsb : b1 ≤ b2) (hm : double.mul d2 (floatOfInt .f64 n) = Option.none) :
    Calls Try.prog 3 #[.float .f64 d1, .float .f64 d2, .int .i64 n, .int .i64 b1, .int .i64 b2] w fun e w' => e = .returned (.bool true) ∧ Below w.heap.size w w' := by
  have hnan := run_mul_nan 22 d2 (floatOfInt .f64 n) hm
  have hord : ∀ w, (FloatKind.f64.format.order (nanOf d2 (floatOfInt .f64 n) w) 4841369599423283200 == some .lt) = false := fun w => by
    rw [show FloatKind.f64.format.order (nanOf d2 (floatOfInt .f64 n) w) 4841369599423283200 = Option.none from order_nanOf _ _ _ _]; rfl
  clear hm
  go_enter Try.func3, Try.ntmps3
  go_wp2_with fail
  go_ret
  exact ⟨rfl, (Below.refl _ _).drew⟩

set_option maxHeartbeats 400000 in
theorem big_00 (d1 d2 x2 : Nat) (n b1 b2 : Int) (w : World) (hn : 0 ≤ n) (hn' : n ≤ 9223372036854775807) (hb1 : 0 ≤ b1) (hb1' : b1 ≤ 9223372036854775807) (hb2 : 0 ≤ b2) (hb2' : b2 ≤ 9223372036854775807) (g1 : (FloatKind.f64.format.order d1 0 == some .gt || FloatKind.f64.format.order d1 0 == some .eq) = true) (g2 : (FloatKind.f64.format.order d2 0 == some .gt || FloatKind.f64.format.order d2 0 == some .eq) = true) (hsd : (FloatKind.f64.format.order d2 d1 == some .lt) = false) (hsb : b1 ≤ b2) (hm : double.mul d2 (floatOfInt .f64 n) = some x2) (hx : (FloatKind.f64.format.order x2 4841369599423283200 == some .lt) = false) :
    Calls Try.prog 3 #[.float .f64 d1, .float .f64 d2, .int .i64 n, .int .i64 b1, .int .i64 b2] w fun e w' => e = .returned (.bool true) ∧ Below w.heap.size w w' := by
  have hmul := fun w => run_float_arith (P := Try.prog) w .mul 22 .f64 d2 (floatOfInt .f64 n) x2 hm
  clear hm
  go_enter Try.func3, Try.ntmps3
  go_wp2_with fail
  go_ret
  exact ⟨rfl, Below.refl _ _⟩

set_option maxHeartbeats 400000 in
theorem fits_00 (d1 d2 x1 x2 : Nat) (t1 t2 : Int) (n b1 b2 : Int) (w : World) (hn : 0 ≤ n) (hn' : n ≤ 9223372036854775807) (hb1 : 0 ≤ b1) (hb1' : b1 ≤ 9223372036854775807) (hb2 : 0 ≤ b2) (hb2' : b2 ≤ 9223372036854775807) (g1 : (FloatKind.f64.format.order d1 0 == some .gt || FloatKind.f64.format.order d1 0 == some .eq) = true) (g2 : (FloatKind.f64.format.order d2 0 == some .gt || FloatKind.f64.format.order d2 0 == some .eq) = true) (hsd : (FloatKind.f64.format.order d2 d1 == some .lt) = false) (hsb : b1 ≤ b2)
    (hm1 : floatBits .mul .f64 d1 (floatOfInt .f64 n) = some x1) (hm2 : floatBits .mul .f64 d2 (floatOfInt .f64 n) = some x2)
    (hc1 : floatToIntVal .f64 x1 .i64 = some t1) (hc2 : floatToIntVal .f64 x2 .i64 = some t2) (ht0 : 0 ≤ t1) (ht12 : t1 ≤ t2) (ht2 : t2 < 4503599627370496)
    (hx : (FloatKind.f64.format.order x2 4841369599423283200 == some .lt) = true)
    (hy : ∀ r : Int, t2 ≤ r → r < 2 ^ 63 → ∃ y, floatBits .add .f64 (floatOfInt .f64 r) 4607182418800017408 = some y ∧ (FloatKind.f64.format.order x2 y == some .lt) = true) :
    Calls Try.prog 3 #[.float .f64 d1, .float .f64 d2, .int .i64 n, .int .i64 b1, .int .i64 b2] w fun e w' => e = .returned (.bool true) ∧ Below w.heap.size w w' := by
  have hmul := fun w => run_float_arith (P := Try.prog) w .mul 22 .f64 d2 (floatOfInt .f64 n) x2 hm2
  obtain ⟨r1, er1⟩ : ∃ r, r = max t1 (b1 / 4) := ⟨_, rfl⟩
  obtain ⟨r2, er2⟩ : ∃ r, r = max t2 (b2 / 4) := ⟨_, rfl⟩
  have hr12 : r1 ≤ r2 := by omega
  have hr0 : 0 ≤ r2 := by omega
  have hr2 : r2 ≤ 2305843009213693951 := by omega
  have hr4 : b2 - 4 * r2 < 4 := by omega
  obtain ⟨y, hadd, hlt⟩ := hy r2 (by omega) (by omega)
  have hadd' := fun w => run_float_arith (P := Try.prog) w .add 22 .f64 (floatOfInt .f64 r2) 4607182418800017408 y hadd
  have A1 : ∀ w, Calls Try.prog 4 #[.float .f64 d1, .int .i64 n, .int .i64 b1] w fun e w' => e = .returned (.int .i64 r1) ∧ Below w.heap.size w w' := fun w => by
    rw [er1]; exact zz_any d1 x1 n b1 t1 w (by omega) (by omega) hm1 hc1
  have A2 : ∀ w, Calls Try.prog 4 #[.float .f64 d2, .int .i64 n, .int .i64 b2] w fun e w' => e = .returned (.int .i64 r2) ∧ Below w.heap.size w w' := fun w => by
    rw [er2]; exact zz_any d2 x2 n b2 t2 w (by omega) (by omega) hm2 hc2
  have H1 : Hid (∀ w, Calls Try.prog 4 #[.float .f64 d1, .int .i64 n, .int .i64 b1] w fun e w' => e = .returned (.int .i64 r1) ∧ Below w.heap.size w w') := A1
  have H2 : Hid (∀ w, Calls Try.prog 4 #[.float .f64 d2, .int .i64 n, .int .i64 b2] w fun e w' => e = .returned (.int .i64 r2) ∧ Below w.heap.size w w') := A2
  clear A1 A2 hm1 hm2 hc1 hc2 hy hadd er1 er2 ht0 ht12 ht2
  go_enter Try.func3, Try.ntmps3
  go_wp2_with fail
  refine (H1.out _).mono ?_
  rintro e w1 ⟨rfl, hb1⟩
  go_wp2_with fail
  refine (H2.out _).mono ?_
  rintro e w2 ⟨rfl, hb2⟩
  go_wp2_with fail
  go_ret
  exact ⟨rfl, hb1.trans (hb2.mono hb1.size)⟩

set_option maxHeartbeats 400000 in
theorem nan_01 (d1 d2 : Nat) (n b1 b2 : Int) (w : World) (hn : 0 ≤ n) (hn' : n ≤ 9223372036854775807) (hb1 : 0 ≤ b1) (hb1' : b1 ≤ 9223372036854775807) (hb2 : 0 ≤ b2) (hb2' : b2 ≤ 9223372036854775807) (g1 : (FloatKind.f64.format.order d1 0 == some .gt || FloatKind.f64.format.order d1 0 == some .eq) = true) (g2 : (FloatKind.f64.format.order d2 0 == some .gt || FloatKind.f64.format.order d2 0 == some .eq) = true) (hsd : (FloatKind.f64.format.order d2 d1 == some .lt) = false) (hsb : b2 < b1) (hm : double.mul d2 (floatOfInt .f64 n) = Option.none) :
    Calls Try.prog 3 #[.float .f64 d1, .float .f64 d2, .int .i64 n, .int .i64 b1, .int .i64 b2] w fun e w' => e = .returned (.bool true) ∧ Below w.heap.size w w' := by
  have hnan := run_mul_nan 22 d2 (floatOfInt .f64 n) hm
  have hord : ∀ w, (FloatKind.f64.format.order (nanOf d2 (floatOfInt .f64 n) w) 4841369599423283200 == some .lt) = false := fun w => by
    rw [show FloatKind.f64.format.order (nanOf d2 (floatOfInt .f64 n) w) 4841369599423283200 = Option.none from order_nanOf _ _ _ _]; rfl
  clear hm
  go_enter Try.func3, Try.ntmps3
  go_wp2_with fail
  go_ret
  exact ⟨rfl, (Below.refl _ _).drew⟩

set_option maxHeartbeats 400000 in
theorem big_01 (d1 d2 x2 : Nat) (n b1 b2 : Int) (w : World) (hn : 0 ≤ n) (hn' : n ≤ 9223372036854775807) (hb1 : 0 ≤ b1) (hb1' : b1 ≤ 9223372036854775807) (hb2 : 0 ≤ b2) (hb2' : b2 ≤ 9223372036854775807) (g1 : (FloatKind.f64.format.order d1 0 == some .gt || FloatKind.f64.format.order d1 0 == some .eq) = true) (g2 : (FloatKind.f64.format.order d2 0 == some .gt || FloatKind.f64.format.order d2 0 == some .eq) = true) (hsd : (FloatKind.f64.format.order d2 d1 == some .lt) = false) (hsb : b2 < b1) (hm : double.mul d2 (floatOfInt .f64 n) = some x2) (hx : (FloatKind.f64.format.order x2 4841369599423283200 == some .lt) = false) :
    Calls Try.prog 3 #[.float .f64 d1, .float .f64 d2, .int .i64 n, .int .i64 b1, .int .i64 b2] w fun e w' => e = .returned (.bool true) ∧ Below w.heap.size w w' := by
  have hmul := fun w => run_float_arith (P := Try.prog) w .mul 22 .f64 d2 (floatOfInt .f64 n) x2 hm
  clear hm
  go_enter Try.func3, Try.ntmps3
  go_wp2_with fail
  go_ret
  exact ⟨rfl, Below.refl _ _⟩

set_option maxHeartbeats 400000 in
theorem fits_01 (d1 d2 x1 x2 : Nat) (t1 t2 : Int) (n b1 b2 : Int) (w : World) (hn : 0 ≤ n) (hn' : n ≤ 9223372036854775807) (hb1 : 0 ≤ b1) (hb1' : b1 ≤ 9223372036854775807) (hb2 : 0 ≤ b2) (hb2' : b2 ≤ 9223372036854775807) (g1 : (FloatKind.f64.format.order d1 0 == some .gt || FloatKind.f64.format.order d1 0 == some .eq) = true) (g2 : (FloatKind.f64.format.order d2 0 == some .gt || FloatKind.f64.format.order d2 0 == some .eq) = true) (hsd : (FloatKind.f64.format.order d2 d1 == some .lt) = false) (hsb : b2 < b1)
    (hm1 : floatBits .mul .f64 d1 (floatOfInt .f64 n) = some x1) (hm2 : floatBits .mul .f64 d2 (floatOfInt .f64 n) = some x2)
    (hc1 : floatToIntVal .f64 x1 .i64 = some t1) (hc2 : floatToIntVal .f64 x2 .i64 = some t2) (ht0 : 0 ≤ t1) (ht12 : t1 ≤ t2) (ht2 : t2 < 4503599627370496)
    (hx : (FloatKind.f64.format.order x2 4841369599423283200 == some .lt) = true)
    (hy : ∀ r : Int, t2 ≤ r → r < 2 ^ 63 → ∃ y, floatBits .add .f64 (floatOfInt .f64 r) 4607182418800017408 = some y ∧ (FloatKind.f64.format.order x2 y == some .lt) = true) :
    Calls Try.prog 3 #[.float .f64 d1, .float .f64 d2, .int .i64 n, .int .i64 b1, .int .i64 b2] w fun e w' => e = .returned (.bool true) ∧ Below w.heap.size w w' := by
  have hmul := fun w => run_float_arith (P := Try.prog) w .mul 22 .f64 d2 (floatOfInt .f64 n) x2 hm2
  obtain ⟨r1, er1⟩ : ∃ r, r = max t1 (b2 / 4) := ⟨_, rfl⟩
  obtain ⟨r2, er2⟩ : ∃ r, r = max t2 (b1 / 4) := ⟨_, rfl⟩
  have hr12 : r1 ≤ r2 := by omega
  have hr0 : 0 ≤ r2 := by omega
  have hr2 : r2 ≤ 2305843009213693951 := by omega
  have hr4 : b1 - 4 * r2 < 4 := by omega
  obtain ⟨y, hadd, hlt⟩ := hy r2 (by omega) (by omega)
  have hadd' := fun w => run_float_arith (P := Try.prog) w .add 22 .f64 (floatOfInt .f64 r2) 4607182418800017408 y hadd
  have A1 : ∀ w, Calls Try.prog 4 #[.float .f64 d1, .int .i64 n, .int .i64 b2] w fun e w' => e = .returned (.int .i64 r1) ∧ Below w.heap.size w w' := fun w => by
    rw [er1]; exact zz_any d1 x1 n b2 t1 w (by omega) (by omega) hm1 hc1
  have A2 : ∀ w, Calls Try.prog 4 #[.float .f64 d2, .int .i64 n, .int .i64 b1] w fun e w' => e = .returned (.int .i64 r2) ∧ Below w.heap.size w w' := fun w => by
    rw [er2]; exact zz_any d2 x2 n b1 t2 w (by omega) (by omega) hm2 hc2
  have H1 : Hid (∀ w, Calls Try.prog 4 #[.float .f64 d1, .int .i64 n, .int .i64 b2] w fun e w' => e = .returned (.int .i64 r1) ∧ Below w.heap.size w w') := A1
  have H2 : Hid (∀ w, Calls Try.prog 4 #[.float .f64 d2, .int .i64 n, .int .i64 b1] w fun e w' => e = .returned (.int .i64 r2) ∧ Below w.heap.size w w') := A2
  clear A1 A2 hm1 hm2 hc1 hc2 hy hadd er1 er2 ht0 ht12 ht2
  go_enter Try.func3, Try.ntmps3
  go_wp2_with fail
  refine (H1.out _).mono ?_
  rintro e w1 ⟨rfl, hb1⟩
  go_wp2_with fail
  refine (H2.out _).mono ?_
  rintro e w2 ⟨rfl, hb2⟩
  go_wp2_with fail
  go_ret
  exact ⟨rfl, hb1.trans (hb2.mono hb1.size)⟩

set_option maxHeartbeats 400000 in
theorem nan_10 (d1 d2 : Nat) (n b1 b2 : Int) (w : World) (hn : 0 ≤ n) (hn' : n ≤ 9223372036854775807) (hb1 : 0 ≤ b1) (hb1' : b1 ≤ 9223372036854775807) (hb2 : 0 ≤ b2) (hb2' : b2 ≤ 9223372036854775807) (g1 : (FloatKind.f64.format.order d1 0 == some .gt || FloatKind.f64.format.order d1 0 == some .eq) = true) (g2 : (FloatKind.f64.format.order d2 0 == some .gt || FloatKind.f64.format.order d2 0 == some .eq) = true) (hsd : (FloatKind.f64.format.order d2 d1 == some .lt) = true) (hsb : b1 ≤ b2) (hm : double.mul d1 (floatOfInt .f64 n) = Option.none) :
    Calls Try.prog 3 #[.float .f64 d1, .float .f64 d2, .int .i64 n, .int .i64 b1, .int .i64 b2] w fun e w' => e = .returned (.bool true) ∧ Below w.heap.size w w' := by
  have hnan := run_mul_nan 22 d1 (floatOfInt .f64 n) hm
  have hord : ∀ w, (FloatKind.f64.format.order (nanOf d1 (floatOfInt .f64 n) w) 4841369599423283200 == some .lt) = false := fun w => by
    rw [show FloatKind.f64.format.order (nanOf d1 (floatOfInt .f64 n) w) 4841369599423283200 = Option.none from order_nanOf _ _ _ _]; rfl
  clear hm
  go_enter Try.func3, Try.ntmps3
  go_wp2_with fail
  go_ret
  exact ⟨rfl, (Below.refl _ _).drew⟩

set_option maxHeartbeats 400000 in
theorem big_10 (d1 d2 x2 : Nat) (n b1 b2 : Int) (w : World) (hn : 0 ≤ n) (hn' : n ≤ 9223372036854775807) (hb1 : 0 ≤ b1) (hb1' : b1 ≤ 9223372036854775807) (hb2 : 0 ≤ b2) (hb2' : b2 ≤ 9223372036854775807) (g1 : (FloatKind.f64.format.order d1 0 == some .gt || FloatKind.f64.format.order d1 0 == some .eq) = true) (g2 : (FloatKind.f64.format.order d2 0 == some .gt || FloatKind.f64.format.order d2 0 == some .eq) = true) (hsd : (FloatKind.f64.format.order d2 d1 == some .lt) = true) (hsb : b1 ≤ b2) (hm : double.mul d1 (floatOfInt .f64 n) = some x2) (hx : (FloatKind.f64.format.order x2 4841369599423283200 == some .lt) = false) :
    Calls Try.prog 3 #[.float .f64 d1, .float .f64 d2, .int .i64 n, .int .i64 b1, .int .i64 b2] w fun e w' => e = .returned (.bool true) ∧ Below w.heap.size w w' := by
  have hmul := fun w => run_float_arith (P := Try.prog) w .mul 22 .f64 d1 (floatOfInt .f64 n) x2 hm
  clear hm
  go_enter Try.func3, Try.ntmps3
  go_wp2_with fail
  go_ret
  exact ⟨rfl, Below.refl _ _⟩

set_option maxHeartbeats 400000 in
theorem fits_10 (d1 d2 x1 x2 : Nat) (t1 t2 : Int) (n b1 b2 : Int) (w : World) (hn : 0 ≤ n) (hn' : n ≤ 9223372036854775807) (hb1 : 0 ≤ b1) (hb1' : b1 ≤ 9223372036854775807) (hb2 : 0 ≤ b2) (hb2' : b2 ≤ 9223372036854775807) (g1 : (FloatKind.f64.format.order d1 0 == some .gt || FloatKind.f64.format.order d1 0 == some .eq) = true) (g2 : (FloatKind.f64.format.order d2 0 == some .gt || FloatKind.f64.format.order d2 0 == some .eq) = true) (hsd : (FloatKind.f64.format.order d2 d1 == some .lt) = true) (hsb : b1 ≤ b2)
    (hm1 : floatBits .mul .f64 d2 (floatOfInt .f64 n) = some x1) (hm2 : floatBits .mul .f64 d1 (floatOfInt .f64 n) = some x2)
    (hc1 : floatToIntVal .f64 x1 .i64 = some t1) (hc2 : floatToIntVal .f64 x2 .i64 = some t2) (ht0 : 0 ≤ t1) (ht12 : t1 ≤ t2) (ht2 : t2 < 4503599627370496)
    (hx : (FloatKind.f64.format.order x2 4841369599423283200 == some .lt) = true)
    (hy : ∀ r : Int, t2 ≤ r → r < 2 ^ 63 → ∃ y, floatBits .add .f64 (floatOfInt .f64 r) 4607182418800017408 = some y ∧ (FloatKind.f64.format.order x2 y == some .lt) = true) :
    Calls Try.prog 3 #[.float .f64 d1, .float .f64 d2, .int .i64 n, .int .i64 b1, .int .i64 b2] w fun e w' => e = .returned (.bool true) ∧ Below w.heap.size w w' := by
  have hmul := fun w => run_float_arith (P := Try.prog) w .mul 22 .f64 d1 (floatOfInt .f64 n) x2 hm2
  obtain ⟨r1, er1⟩ : ∃ r, r = max t1 (b1 / 4) := ⟨_, rfl⟩
  obtain ⟨r2, er2⟩ : ∃ r, r = max t2 (b2 / 4) := ⟨_, rfl⟩
  have hr12 : r1 ≤ r2 := by omega
  have hr0 : 0 ≤ r2 := by omega
  have hr2 : r2 ≤ 2305843009213693951 := by omega
  have hr4 : b2 - 4 * r2 < 4 := by omega
  obtain ⟨y, hadd, hlt⟩ := hy r2 (by omega) (by omega)
  have hadd' := fun w => run_float_arith (P := Try.prog) w .add 22 .f64 (floatOfInt .f64 r2) 4607182418800017408 y hadd
  have A1 : ∀ w, Calls Try.prog 4 #[.float .f64 d2, .int .i64 n, .int .i64 b1] w fun e w' => e = .returned (.int .i64 r1) ∧ Below w.heap.size w w' := fun w => by
    rw [er1]; exact zz_any d2 x1 n b1 t1 w (by omega) (by omega) hm1 hc1
  have A2 : ∀ w, Calls Try.prog 4 #[.float .f64 d1, .int .i64 n, .int .i64 b2] w fun e w' => e = .returned (.int .i64 r2) ∧ Below w.heap.size w w' := fun w => by
    rw [er2]; exact zz_any d1 x2 n b2 t2 w (by omega) (by omega) hm2 hc2
  have H1 : Hid (∀ w, Calls Try.prog 4 #[.float .f64 d2, .int .i64 n, .int .i64 b1] w fun e w' => e = .returned (.int .i64 r1) ∧ Below w.heap.size w w') := A1
  have H2 : Hid (∀ w, Calls Try.prog 4 #[.float .f64 d1, .int .i64 n, .int .i64 b2] w fun e w' => e = .returned (.int .i64 r2) ∧ Below w.heap.size w w') := A2
  clear A1 A2 hm1 hm2 hc1 hc2 hy hadd er1 er2 ht0 ht12 ht2
  go_enter Try.func3, Try.ntmps3
  go_wp2_with fail
  refine (H1.out _).mono ?_
  rintro e w1 ⟨rfl, hb1⟩
  go_wp2_with fail
  refine (H2.out _).mono ?_
  rintro e w2 ⟨rfl, hb2⟩
  go_wp2_with fail
  go_ret
  exact ⟨rfl, hb1.trans (hb2.mono hb1.size)⟩

set_option maxHeartbeats 400000 in
theorem nan_11 (d1 d2 : Nat) (n b1 b2 : Int) (w : World) (hn : 0 ≤ n) (hn' : n ≤ 9223372036854775807) (hb1 : 0 ≤ b1) (hb1' : b1 ≤ 9223372036854775807) (hb2 : 0 ≤ b2) (hb2' : b2 ≤ 9223372036854775807) (g1 : (FloatKind.f64.format.order d1 0 == some .gt || FloatKind.f64.format.order d1 0 == some .eq) = true) (g2 : (FloatKind.f64.format.order d2 0 == some .gt || FloatKind.f64.format.order d2 0 == some .eq) = true) (hsd : (FloatKind.f64.format.order d2 d1 == some .lt) = true) (hsb : b2 < b1) (hm : double.mul d1 (floatOfInt .f64 n) = Option.none) :
    Calls Try.prog 3 #[.float .f64 d1, .float .f64 d2, .int .i64 n, .int .i64 b1, .int .i64 b2] w fun e w' => e = .returned (.bool true) ∧ Below w.heap.size w w' := by
  have hnan := run_mul_nan 22 d1 (floatOfInt .f64 n) hm
  have hord : ∀ w, (FloatKind.f64.format.order (nanOf d1 (floatOfInt .f64 n) w) 4841369599423283200 == some .lt) = false := fun w => by
    rw [show FloatKind.f64.format.order (nanOf d1 (floatOfInt .f64 n) w) 4841369599423283200 = Option.none from order_nanOf _ _ _ _]; rfl
  clear hm
  go_enter Try.func3, Try.ntmps3
  go_wp2_with fail
  go_ret
  exact ⟨rfl, (Below.refl _ _).drew⟩

set_option maxHeartbeats 400000 in
theorem big_11 (d1 d2 x2 : Nat) (n b1 b2 : Int) (w : World) (hn : 0 ≤ n) (hn' : n ≤ 9223372036854775807) (hb1 : 0 ≤ b1) (hb1' : b1 ≤ 9223372036854775807) (hb2 : 0 ≤ b2) (hb2' : b2 ≤ 9223372036854775807) (g1 : (FloatKind.f64.format.order d1 0 == some .gt || FloatKind.f64.format.order d1 0 == some .eq) = true) (g2 : (FloatKind.f64.format.order d2 0 == some .gt || FloatKind.f64.format.order d2 0 == some .eq) = true) (hsd : (FloatKind.f64.format.order d2 d1 == some .lt) = true) (hsb : b2 < b1) (hm : double.mul d1 (floatOfInt .f64 n) = some x2) (hx : (FloatKind.f64.format.order x2 4841369599423283200 == some .lt) = false) :
    Calls Try.prog 3 #[.float .f64 d1, .float .f64 d2, .int .i64 n, .int .i64 b1, .int .i64 b2] w fun e w' => e = .returned (.bool true) ∧ Below w.heap.size w w' := by
  have hmul := fun w => run_float_arith (P := Try.prog) w .mul 22 .f64 d1 (floatOfInt .f64 n) x2 hm
  clear hm
  go_enter Try.func3, Try.ntmps3
  go_wp2_with fail
  go_ret
  exact ⟨rfl, Below.refl _ _⟩

set_option maxHeartbeats 400000 in
theorem fits_11 (d1 d2 x1 x2 : Nat) (t1 t2 : Int) (n b1 b2 : Int) (w : World) (hn : 0 ≤ n) (hn' : n ≤ 9223372036854775807) (hb1 : 0 ≤ b1) (hb1' : b1 ≤ 9223372036854775807) (hb2 : 0 ≤ b2) (hb2' : b2 ≤ 9223372036854775807) (g1 : (FloatKind.f64.format.order d1 0 == some .gt || FloatKind.f64.format.order d1 0 == some .eq) = true) (g2 : (FloatKind.f64.format.order d2 0 == some .gt || FloatKind.f64.format.order d2 0 == some .eq) = true) (hsd : (FloatKind.f64.format.order d2 d1 == some .lt) = true) (hsb : b2 < b1)
    (hm1 : floatBits .mul .f64 d2 (floatOfInt .f64 n) = some x1) (hm2 : floatBits .mul .f64 d1 (floatOfInt .f64 n) = some x2)
    (hc1 : floatToIntVal .f64 x1 .i64 = some t1) (hc2 : floatToIntVal .f64 x2 .i64 = some t2) (ht0 : 0 ≤ t1) (ht12 : t1 ≤ t2) (ht2 : t2 < 4503599627370496)
    (hx : (FloatKind.f64.format.order x2 4841369599423283200 == some .lt) = true)
    (hy : ∀ r : Int, t2 ≤ r → r < 2 ^ 63 → ∃ y, floatBits .add .f64 (floatOfInt .f64 r) 4607182418800017408 = some y ∧ (FloatKind.f64.format.order x2 y == some .lt) = true) :
    Calls Try.prog 3 #[.float .f64 d1, .float .f64 d2, .int .i64 n, .int .i64 b1, .int .i64 b2] w fun e w' => e = .returned (.bool true) ∧ Below w.heap.size w w' := by
  have hmul := fun w => run_float_arith (P := Try.prog) w .mul 22 .f64 d1 (floatOfInt .f64 n) x2 hm2
  obtain ⟨r1, er1⟩ : ∃ r, r = max t1 (b2 / 4) := ⟨_, rfl⟩
  obtain ⟨r2, er2⟩ : ∃ r, r = max t2 (b1 / 4) := ⟨_, rfl⟩
  have hr12 : r1 ≤ r2 := by omega
  have hr0 : 0 ≤ r2 := by omega
  have hr2 : r2 ≤ 2305843009213693951 := by omega
  have hr4 : b1 - 4 * r2 < 4 := by omega
  obtain ⟨y, hadd, hlt⟩ := hy r2 (by omega) (by omega)
  have hadd' := fun w => run_float_arith (P := Try.prog) w .add 22 .f64 (floatOfInt .f64 r2) 4607182418800017408 y hadd
  have A1 : ∀ w, Calls Try.prog 4 #[.float .f64 d2, .int .i64 n, .int .i64 b2] w fun e w' => e = .returned (.int .i64 r1) ∧ Below w.heap.size w w' := fun w => by
    rw [er1]; exact zz_any d2 x1 n b2 t1 w (by omega) (by omega) hm1 hc1
  have A2 : ∀ w, Calls Try.prog 4 #[.float .f64 d1, .int .i64 n, .int .i64 b1] w fun e w' => e = .returned (.int .i64 r2) ∧ Below w.heap.size w w' := fun w => by
    rw [er2]; exact zz_any d1 x2 n b1 t2 w (by omega) (by omega) hm2 hc2
  have H1 : Hid (∀ w, Calls Try.prog 4 #[.float .f64 d2, .int .i64 n, .int .i64 b2] w fun e w' => e = .returned (.int .i64 r1) ∧ Below w.heap.size w w') := A1
  have H2 : Hid (∀ w, Calls Try.prog 4 #[.float .f64 d1, .int .i64 n, .int .i64 b1] w fun e w' => e = .returned (.int .i64 r2) ∧ Below w.heap.size w w') := A2
  clear A1 A2 hm1 hm2 hc1 hc2 hy hadd er1 er2 ht0 ht12 ht2
  go_enter Try.func3, Try.ntmps3
  go_wp2_with fail
  refine (H1.out _).mono ?_
  rintro e w1 ⟨rfl, hb1⟩
  go_wp2_with fail
  refine (H2.out _).mono ?_
  rintro e w2 ⟨rfl, hb2⟩
  go_wp2_with fail
  go_ret
  exact ⟨rfl, hb1.trans (hb2.mono hb1.size)⟩

end Go.Proofs.Qxb6615844a
