import Derived.Test.Qxb6616096aDoorKeyed2
namespace Go.Proofs.Qxb6616096aDoor
open Go.RowKit
set_option linter.unusedVariables false
set_option linter.unusedSimpArgs false
set_option maxRecDepth 100000
open Pl Flt Ieee

/-- The NaN that the tape gives. -/
def nanOf (x y : Nat) (w : World) : Nat := Question.cut (.nanBits .f64 x y) (w.tape w.drawn (.nanBits .f64 x y))

theorem run_sub_nan (t : TypeId) (x y : Nat) (h : double.sub x y = Option.none) (w : World) :
    (binOp .sub t (.float .f64 x) (.float .f64 y)).run Tryd.prog w = .ok (.float .f64 (nanOf x y w)) w.drew := by
  have h' : FloatKind.f64.format.sub x y = Option.none := h
  simp [binOp, Op.floatArith, h', nanOf, Question.forced]

theorem order_nan (c y : Nat) (s : Nat) (hs : s < 2) (h1 : 1 ≤ c) (h2 : c < 2 ^ 52) : double.order (s * 2 ^ 63 + 2047 * 2 ^ 52 + c) y = Option.none := by
  unfold Format.order
  have hr : double.read (s * 2 ^ 63 + 2047 * 2 ^ 52 + c) = .nan (s == 1) c := by
    unfold Format.read
    rw [leastPlace_eq, binade_eq, infRung_eq, signWeight_eq]
    rw [show (s * 2 ^ 63 + 2047 * 2 ^ 52 + c) / 2 ^ 63 = s from by omega, show (s * 2 ^ 63 + 2047 * 2 ^ 52 + c) % 2 ^ 63 = 2047 * 2 ^ 52 + c from by omega]
    rw [show s % 2 = s from by omega]
    simp only [if_neg (show ¬ 2047 * 2 ^ 52 + c < 2 ^ 52 by omega), if_neg (show ¬ 2047 * 2 ^ 52 + c < 2047 * 2 ^ 52 by omega), if_neg (show ¬ 2047 * 2 ^ 52 + c = 2047 * 2 ^ 52 by omega)]
    exact congrArg (Datum.nan (s == 1)) (by omega)
  rw [hr]
  cases double.read y <;> rfl

theorem order_nanOf (x y c : Nat) (w : World) : double.order (nanOf x y w) c = Option.none := by
  unfold nanOf Question.cut
  simp only
  generalize w.tape w.drawn (.nanBits .f64 x y) = t
  have := order_nan (1 + (t / 2) % (2 ^ 52 - 1)) c (t % 2) (by omega) (by omega) (by omega)
  exact (congrArg (fun z => double.order z c) (by omega)).trans this

set_option maxHeartbeats 1000000 in
theorem finite_fin (x : Nat) (hx : x < 9218868437227405312) (w : World) :
    Calls Tryd.prog 18 #[.float .f64 x] w fun e w' => e = .returned (.bool true) ∧ ∃ n, w' = w.drewN n := by
  have k1 : (FloatKind.f64.format.order x x == some .eq) = true := by
    rw [order_f _ _ (by omega) (by omega), Nat.compare_eq_eq.2 rfl]; rfl
  have hs := fun w => run_float_arith (P := Tryd.prog) w .sub 22 .f64 x x 0 (sub_self x (by omega))
  have k2 : (FloatKind.f64.format.order 0 0 == some .eq) = true := by
    rw [order_f _ _ (by omega) (by omega), Nat.compare_eq_eq.2 rfl]; rfl
  go_enter Tryd.func18, Tryd.ntmps18
  go_wp2_with fail
  go_ret
  exact ⟨rfl, 0, rfl⟩

set_option maxHeartbeats 1000000 in
theorem finite_inf (w : World) :
    Calls Tryd.prog 18 #[.float .f64 9218868437227405312] w fun e w' => e = .returned (.bool false) ∧ ∃ n, w' = w.drewN n := by
  have k1 : (FloatKind.f64.format.order 9218868437227405312 9218868437227405312 == some .eq) = true := by
    rw [order_f _ _ (by omega) (by omega), Nat.compare_eq_eq.2 rfl]; rfl
  have hs := run_sub_nan 22 9218868437227405312 9218868437227405312 sub_inf
  have k2 : ∀ w, (FloatKind.f64.format.order (nanOf 9218868437227405312 9218868437227405312 w) 0 == some .eq) = false := fun w => by
    rw [show FloatKind.f64.format.order (nanOf 9218868437227405312 9218868437227405312 w) 0 = Option.none from order_nanOf _ _ _ _]; rfl
  go_enter Tryd.func18, Tryd.ntmps18
  go_wp2_with fail
  go_ret
  exact ⟨rfl, 1, rfl⟩

/-- 'finite' of what is above zero. -/
theorem finite_pos (x : Nat) (hx : x ≤ 9218868437227405312) (w : World) :
    Calls Tryd.prog 18 #[.float .f64 x] w fun e w' => e = .returned (.bool (decide (x < 9218868437227405312))) ∧ ∃ n, w' = w.drewN n := by
  rcases Nat.lt_or_eq_of_le hx with h | h
  · rw [decide_eq_true h]; exact finite_fin x h w
  · rw [decide_eq_false (by omega), h]; exact finite_inf w

/-- A Limit's domain. -/
def Dom (burst : Int) (t : Nat) (per : Int) : Prop := 1 ≤ burst ∧ burst ≤ 9007199254740992 ∧ 0 < t ∧ t < 9218868437227405312 ∧ 0 < per

def RetDom (burst : Int) (t : Nat) (per : Int) (e : Ending) : Prop := ∃ b : Bool, e = .returned (.bool b) ∧ (b = true → Dom burst t per)

theorem retDom_false {burst : Int} {t : Nat} {per : Int} : RetDom burst t per (.returned (.bool false)) := ⟨false, rfl, fun h => by cases h⟩

set_option maxHeartbeats 2000000 in
theorem limitDomain_c (burst : Int) (t : Nat) (per : Int) (ht : t < 2 ^ 64) (w : World) :
    Calls Tryd.prog 15 #[.int .i64 burst, .float .f64 t, .int .i64 per] w fun e w' => RetDom burst t per e ∧ ∃ n, w' = w.drewN n := by
  by_cases h1 : 1 ≤ burst
  case neg =>
    have k1 : decide (1 ≤ burst) = false := decide_eq_false h1
    go_enter Tryd.func15, Tryd.ntmps15
    go_wp2_with fail
    go_ret
    exact ⟨retDom_false, 0, rfl⟩
  have k1 : decide (1 ≤ burst) = true := decide_eq_true h1
  by_cases h2 : burst ≤ 9007199254740992
  case neg =>
    have k2 : decide (burst ≤ 9007199254740992) = false := decide_eq_false h2
    go_enter Tryd.func15, Tryd.ntmps15
    go_wp2_with fail
    go_ret
    exact ⟨retDom_false, 0, rfl⟩
  have k2 : decide (burst ≤ 9007199254740992) = true := decide_eq_true h2
  by_cases h3 : (FloatKind.f64.format.order t 0 == some .gt) = true
  case neg =>
    have k3 : (FloatKind.f64.format.order t 0 == some .gt) = false := by simpa using h3
    clear h3
    go_enter Tryd.func15, Tryd.ntmps15
    go_wp2_with fail
    go_ret
    exact ⟨retDom_false, 0, rfl⟩
  obtain ⟨p0, p1⟩ := pos_of_gt t ht h3
  have C := finite_pos t (by omega)
  by_cases h4 : t < 9218868437227405312
  case neg =>
    have C' : Hid (∀ w, Calls Tryd.prog 18 #[.float .f64 t] w fun e w' => e = .returned (.bool false) ∧ ∃ n, w' = w.drewN n) := by
      intro w; have := C w; rwa [decide_eq_false h4] at this
    clear C h1 h2 p0 p1 h4 ht
    go_enter Tryd.func15, Tryd.ntmps15
    go_wp2_with fail
    refine (C'.out _).mono ?_
    rintro e w1 ⟨rfl, n, rfl⟩
    go_wp2_with fail
    go_ret
    exact ⟨retDom_false, n, rfl⟩
  have C' : Hid (∀ w, Calls Tryd.prog 18 #[.float .f64 t] w fun e w' => e = .returned (.bool true) ∧ ∃ n, w' = w.drewN n) := by
    intro w; have := C w; rwa [decide_eq_true h4] at this
  have HD : Hid (0 < per → Dom burst t per) := fun hp => ⟨h1, h2, p0, h4, hp⟩
  clear C h1 h2 p0 p1 h4 ht
  by_cases h5 : 0 < per
  · have k5 : decide (0 < per) = true := decide_eq_true h5
    go_enter Tryd.func15, Tryd.ntmps15
    go_wp2_with fail
    refine (C'.out _).mono ?_
    rintro e w1 ⟨rfl, n, rfl⟩
    go_wp2_with fail
    go_ret
    exact ⟨⟨true, rfl, fun _ => HD.out h5⟩, n, rfl⟩
  · have k5 : decide (0 < per) = false := decide_eq_false h5
    go_enter Tryd.func15, Tryd.ntmps15
    go_wp2_with fail
    refine (C'.out _).mono ?_
    rintro e w1 ⟨rfl, n, rfl⟩
    go_wp2_with fail
    go_ret
    exact ⟨retDom_false, n, rfl⟩

end Go.Proofs.Qxb6616096aDoor
