import Derived.Test.Qxb6615844aMain
import Derived.ProofKit
import Derived.OpenShut
import Derived.ShutString
import Derived.ChangeOld
import Derived.Below
namespace Go.Proofs.Qxb6615844a
open Go.ChangeShapes Go.WideShapes Go.ChangeAt Go.RowKit
open Ieee Flt

theorem own : ownKnob Try.prog.godebug = Option.none := by kernel_rfl
theorem laidOut : laidOutB Try.prog = true := by kernel_rfl

theorem le_of_not_lt {x y : Nat} (hx : NN x) (hy : NN y) (h : (double.order x y == some .lt) = false) : rg y ≤ rg x := by
  have := order_lt_iff x y hx hy
  rw [h] at this
  have h2 : ¬ rg x < rg y := fun k => by have := this.2 k; cases this
  omega


set_option maxHeartbeats 400000 in
theorem o1 (d1 d2 : Nat) (n b1 b2 : Int) (w : World) (h : n < 0) : Calls Try.prog 3 #[.float .f64 d1, .float .f64 d2, .int .i64 n, .int .i64 b1, .int .i64 b2] w fun e w' => e = .returned (.bool true) ∧ Below w.heap.size w w' := by
  go_enter Try.func3, Try.ntmps3
  go_wp2_with fail
  go_ret
  exact ⟨rfl, Below.refl _ _⟩

set_option maxHeartbeats 400000 in
theorem o2 (d1 d2 : Nat) (n b1 b2 : Int) (w : World) (hn : 0 ≤ n) (h : b1 < 0) : Calls Try.prog 3 #[.float .f64 d1, .float .f64 d2, .int .i64 n, .int .i64 b1, .int .i64 b2] w fun e w' => e = .returned (.bool true) ∧ Below w.heap.size w w' := by
  go_enter Try.func3, Try.ntmps3
  go_wp2_with fail
  go_ret
  exact ⟨rfl, Below.refl _ _⟩

set_option maxHeartbeats 400000 in
theorem o3 (d1 d2 : Nat) (n b1 b2 : Int) (w : World) (hn : 0 ≤ n) (hb1 : 0 ≤ b1) (h : b2 < 0) : Calls Try.prog 3 #[.float .f64 d1, .float .f64 d2, .int .i64 n, .int .i64 b1, .int .i64 b2] w fun e w' => e = .returned (.bool true) ∧ Below w.heap.size w w' := by
  go_enter Try.func3, Try.ntmps3
  go_wp2_with fail
  go_ret
  exact ⟨rfl, Below.refl _ _⟩

set_option maxHeartbeats 400000 in
theorem o4 (d1 d2 : Nat) (n b1 b2 : Int) (w : World) (hn : 0 ≤ n) (hb1 : 0 ≤ b1) (hb2 : 0 ≤ b2) (h : (FloatKind.f64.format.order d1 0 == some .gt || FloatKind.f64.format.order d1 0 == some .eq) = false) : Calls Try.prog 3 #[.float .f64 d1, .float .f64 d2, .int .i64 n, .int .i64 b1, .int .i64 b2] w fun e w' => e = .returned (.bool true) ∧ Below w.heap.size w w' := by
  go_enter Try.func3, Try.ntmps3
  go_wp2_with fail
  go_ret
  exact ⟨rfl, Below.refl _ _⟩

set_option maxHeartbeats 400000 in
theorem o5 (d1 d2 : Nat) (n b1 b2 : Int) (w : World) (hn : 0 ≤ n) (hb1 : 0 ≤ b1) (hb2 : 0 ≤ b2) (g1 : (FloatKind.f64.format.order d1 0 == some .gt || FloatKind.f64.format.order d1 0 == some .eq) = true) (h : (FloatKind.f64.format.order d2 0 == some .gt || FloatKind.f64.format.order d2 0 == some .eq) = false) : Calls Try.prog 3 #[.float .f64 d1, .float .f64 d2, .int .i64 n, .int .i64 b1, .int .i64 b2] w fun e w' => e = .returned (.bool true) ∧ Below w.heap.size w w' := by
  go_enter Try.func3, Try.ntmps3
  go_wp2_with fail
  go_ret
  exact ⟨rfl, Below.refl _ _⟩

theorem walk (d1 d2 : Nat) (n b1 b2 : Int) (w : World) (w0 : (Lit.float .f64 d1).wf = true) (w1 : (Lit.float .f64 d2).wf = true) (w2 : (Lit.int .i64 n).wf = true) (w3 : (Lit.int .i64 b1).wf = true) (w4 : (Lit.int .i64 b2).wf = true) :
    Calls Try.prog 3 #[.float .f64 d1, .float .f64 d2, .int .i64 n, .int .i64 b1, .int .i64 b2] w fun e w' => e = .returned (.bool true) ∧ Below w.heap.size w w' := by
  have k1 : d1 < 2 ^ 64 := by simpa [Lit.wf] using w0
  have k2 : d2 < 2 ^ 64 := by simpa [Lit.wf] using w1
  have ib : ∀ x : Int, (Lit.int .i64 x).wf = true → -9223372036854775808 ≤ x ∧ x ≤ 9223372036854775807 := fun x h => by
    have h2 : (decide (IntKind.i64.min ≤ x) && decide (x ≤ IntKind.i64.max)) = true := h
    rw [show IntKind.min .i64 = -9223372036854775808 from rfl, show IntKind.max .i64 = 9223372036854775807 from rfl] at h2
    simpa using h2
  have q2 : -9223372036854775808 ≤ n ∧ n ≤ 9223372036854775807 := ib _ w2
  have q3 : -9223372036854775808 ≤ b1 ∧ b1 ≤ 9223372036854775807 := ib _ w3
  have q4 : -9223372036854775808 ≤ b2 ∧ b2 ≤ 9223372036854775807 := ib _ w4
  clear w0 w1 w2 w3 w4
  by_cases hn : n < 0
  · exact o1 d1 d2 n b1 b2 w hn
  have hn := Int.not_lt.1 hn
  by_cases hb1 : b1 < 0
  · exact o2 d1 d2 n b1 b2 w hn hb1
  have hb1 := Int.not_lt.1 hb1
  by_cases hb2 : b2 < 0
  · exact o3 d1 d2 n b1 b2 w hn hb1 hb2
  have hb2 := Int.not_lt.1 hb2
  cases g1 : (FloatKind.f64.format.order d1 0 == some .gt || FloatKind.f64.format.order d1 0 == some .eq) with
  | false => exact o4 d1 d2 n b1 b2 w hn hb1 hb2 g1
  | true =>
  cases g2 : (FloatKind.f64.format.order d2 0 == some .gt || FloatKind.f64.format.order d2 0 == some .eq) with
  | false => exact o5 d1 d2 n b1 b2 w hn hb1 hb2 g1 g2
  | true =>
  have n1 : NN d1 := nn_of_ge d1 k1 g1
  have n2 : NN d2 := nn_of_ge d2 k2 g2
  cases hsd : (FloatKind.f64.format.order d2 d1 == some .lt) with
  | false =>
    have hle : rg d1 ≤ rg d2 := le_of_not_lt n2 n1 hsd
    by_cases hsb : b2 < b1
    · cases hm : double.mul d2 (floatOfInt .f64 n) with
      | none => exact nan_01 d1 d2 n b1 b2 w hn q2.2 hb1 q3.2 hb2 q4.2 g1 g2 hsd hsb hm
      | some x2 =>
        cases hx : (FloatKind.f64.format.order x2 4841369599423283200 == some .lt) with
        | false => exact big_01 d1 d2 x2 n b1 b2 w hn q2.2 hb1 q3.2 hb2 q4.2 g1 g2 hsd hsb hm hx
        | true =>
          obtain ⟨x1, t1, t2, c1, c2, c3, c4, c5, c6, c7, c8⟩ := core d1 d2 x2 n hn (by omega) n1 n2 hle hm hx
          exact fits_01 d1 d2 x1 x2 t1 t2 n b1 b2 w hn q2.2 hb1 q3.2 hb2 q4.2 g1 g2 hsd hsb c1 c2 c3 c4 c5 c6 c7 hx c8
    · cases hm : double.mul d2 (floatOfInt .f64 n) with
      | none => exact nan_00 d1 d2 n b1 b2 w hn q2.2 hb1 q3.2 hb2 q4.2 g1 g2 hsd (Int.not_lt.1 hsb) hm
      | some x2 =>
        cases hx : (FloatKind.f64.format.order x2 4841369599423283200 == some .lt) with
        | false => exact big_00 d1 d2 x2 n b1 b2 w hn q2.2 hb1 q3.2 hb2 q4.2 g1 g2 hsd (Int.not_lt.1 hsb) hm hx
        | true =>
          obtain ⟨x1, t1, t2, c1, c2, c3, c4, c5, c6, c7, c8⟩ := core d1 d2 x2 n hn (by omega) n1 n2 hle hm hx
          exact fits_00 d1 d2 x1 x2 t1 t2 n b1 b2 w hn q2.2 hb1 q3.2 hb2 q4.2 g1 g2 hsd (Int.not_lt.1 hsb) c1 c2 c3 c4 c5 c6 c7 hx c8
  | true =>
    have hle : rg d2 ≤ rg d1 := Nat.le_of_lt ((order_lt_iff d2 d1 n2 n1).1 hsd)
    by_cases hsb : b2 < b1
    · cases hm : double.mul d1 (floatOfInt .f64 n) with
      | none => exact nan_11 d1 d2 n b1 b2 w hn q2.2 hb1 q3.2 hb2 q4.2 g1 g2 hsd hsb hm
      | some x2 =>
        cases hx : (FloatKind.f64.format.order x2 4841369599423283200 == some .lt) with
        | false => exact big_11 d1 d2 x2 n b1 b2 w hn q2.2 hb1 q3.2 hb2 q4.2 g1 g2 hsd hsb hm hx
        | true =>
          obtain ⟨x1, t1, t2, c1, c2, c3, c4, c5, c6, c7, c8⟩ := core d2 d1 x2 n hn (by omega) n2 n1 hle hm hx
          exact fits_11 d1 d2 x1 x2 t1 t2 n b1 b2 w hn q2.2 hb1 q3.2 hb2 q4.2 g1 g2 hsd hsb c1 c2 c3 c4 c5 c6 c7 hx c8
    · cases hm : double.mul d1 (floatOfInt .f64 n) with
      | none => exact nan_10 d1 d2 n b1 b2 w hn q2.2 hb1 q3.2 hb2 q4.2 g1 g2 hsd (Int.not_lt.1 hsb) hm
      | some x2 =>
        cases hx : (FloatKind.f64.format.order x2 4841369599423283200 == some .lt) with
        | false => exact big_10 d1 d2 x2 n b1 b2 w hn q2.2 hb1 q3.2 hb2 q4.2 g1 g2 hsd (Int.not_lt.1 hsb) hm hx
        | true =>
          obtain ⟨x1, t1, t2, c1, c2, c3, c4, c5, c6, c7, c8⟩ := core d2 d1 x2 n hn (by omega) n2 n1 hle hm hx
          exact fits_10 d1 d2 x1 x2 t1 t2 n b1 b2 w hn q2.2 hb1 q3.2 hb2 q4.2 g1 g2 hsd (Int.not_lt.1 hsb) c1 c2 c3 c4 c5 c6 c7 hx c8

set_option maxRecDepth 100000 in
theorem lifted (os : Os) (started : os.Started) (H : Type) (enc : TypeId × Value → H) :
    ReturnsInHanded {} Try.checked os 3 .any (Rows.fnRepeatEveryNeverFasterWhenLargerSpec.pre6 enc Try.prog Try.f3 Rows.fnRepeatEveryNeverFasterWhenLargerRow.domain false) (Rows.fnRepeatEveryNeverFasterWhenLargerSpec.post enc Try.prog Try.f3 false true false false) := by
  refine returnsInHanded_of_change (C := Try.checked) own started (by kernel_rfl) Try.func3
    (ChangeSpec.witness6 (enc := enc) (C := Try.checked) false ⟨#[], #[.float .f64 0, .float .f64 0, .int .i64 0, .int .i64 0, .int .i64 0], []⟩ 8 (by kernel_rfl) (by kernel_rfl) (by kernel_rfl) (by kernel_rfl)) ?_
  intro W base args ds gs before hval0 hW hcnd _
  have hval : ∀ (j : Nat) t v, Try.f3.params[j]? = some t → args[j]? = some v → Value.okWide Try.prog W .any base t v := hval0
  have hW' := hW
  obtain ⟨p, q, hA0, hV, rfl, hfz, hnd⟩ := hW
  have hA : DataW.TrodAll enc Try.prog W 0 (fun _ => true) true Try.f3.params.toList args.toList ds p := hA0
  rw [Try.params3] at hA hval
  obtain ⟨v0, vs0, d0, ds0, p0, q0, hargs, rfl, rfl, h0, r0⟩ := trodAll_cons hA
  obtain ⟨v1, vs1, d1, ds1, p1, q1, rfl, rfl, rfl, h1, r1⟩ := trodAll_cons r0
  obtain ⟨v2, vs2, d2, ds2, p2, q2, rfl, rfl, rfl, h2, r2⟩ := trodAll_cons r1
  obtain ⟨v3, vs3, d3, ds3, p3, q3, rfl, rfl, rfl, h3, r3⟩ := trodAll_cons r2
  obtain ⟨v4, vs4, d4, ds4, p4, q4, rfl, rfl, rfl, h4, r4⟩ := trodAll_cons r3
  obtain ⟨rfl, rfl, rfl⟩ := trodAll_nil r4
  obtain rfl : args = #[v0, v1, v2, v3, v4] := by cases args; simp_all
  obtain ⟨rfl, rfl⟩ := trodVars_none hV
  obtain ⟨a0, rfl, rfl, rfl, w0⟩ := open_float Try.underlying22 (hval 0 22 v0 rfl rfl) h0
  obtain ⟨a1, rfl, rfl, rfl, w1⟩ := open_float Try.underlying22 (hval 1 22 v1 rfl rfl) h1
  obtain ⟨a2, rfl, rfl, rfl, w2⟩ := open_int Try.underlying2 (hval 2 2 v2 rfl rfl) h2
  obtain ⟨a3, rfl, rfl, rfl, w3⟩ := open_int Try.underlying2 (hval 3 2 v3 rfl rfl) h3
  obtain ⟨a4, rfl, rfl, rfl, w4⟩ := open_int Try.underlying2 (hval 4 2 v4 rfl rfl) h4
  clear hA0 hval0
  refine (walk a0 a1 a2 a3 a4 W w0 w1 w2 w3 w4).mono fun e W' ⟨he, bel⟩ => ?_
  subst he
  exact ⟨_, rfl, _, _, _, [], _, [], hW', trodAll_mk1 (shut_bool Try.underlying4 _), (trodAll_cons_mk (shut_float Try.underlying22 w0) (trodAll_cons_mk (shut_float Try.underlying22 w1) (trodAll_cons_mk (shut_int Try.underlying2 w2) (trodAll_cons_mk (shut_int Try.underlying2 w3) (trodAll_cons_mk (shut_int Try.underlying2 w4) trodAll_mk0))))), rfl, bel.frame _, fun h => by cases h⟩

theorem over : Rows.fnRepeatEveryNeverFasterWhenLargerRow.holds Try.pinned (OpenSpec.ofChange Rows.fnRepeatEveryNeverFasterWhenLargerSpec) :=
  OpenClaim.holds_of_wide 3 Try.f3 rfl rfl rfl rfl rfl rfl rfl ⟨rfl, rfl, rfl, rfl, rfl⟩ rfl rfl rfl rfl rfl (by kernel_rfl) Try.func3 (by kernel_rfl)
    (of_decide_eq_true (by kernel_rfl)) (by unfold Func.isWrapper; first | (rw [if_pos (by decide +kernel)]; kernel_rfl) | (rw [if_neg (by decide +kernel)]; exact ⟨rfl, rfl⟩))
    (fun os started H enc _ => lifted os started H enc)

/-- THE STATEMENT -/
theorem repeatEvery_proved : Rows.FnRepeatEveryNeverFasterWhenLargerSaid := over
end Go.Proofs.Qxb6615844a
