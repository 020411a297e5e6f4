import Derived.Test.Qxb6616096aDoorAccrue
import Derived.Shelf.Spec.BitsCarry
namespace Go.Proofs.Qxb6616096aDoor
open Go.RowKit
set_option linter.unusedVariables false
set_option linter.unusedSimpArgs false
set_option maxRecDepth 100000
open Pl

theorem sub68 (x y : Int) (hx : Word x) (hy : Word y) : ∃ D B : Int, (∀ w, (callFunc 68 #[.int .u64 x, .int .u64 y, .int .u64 0]).run Tryd.prog w = .ok (.value (.tuple #[.int .u64 D, .int .u64 B])) w) ∧ Hid (Word D ∧ Word B ∧ (x = 0 → y = 0 → D = 0 ∧ B = 0)) := by
  obtain ⟨xn, rfl⟩ := Int.eq_ofNat_of_zero_le hx.1
  obtain ⟨yn, rfl⟩ := Int.eq_ofNat_of_zero_le hy.1
  refine ⟨(((xn + 18446744073709551616 - yn - 0) % 18446744073709551616 : Nat) : Int), ((if xn < yn + 0 then 1 else 0 : Nat) : Int), fun w => ?_, ?_⟩
  · rw [run_callFunc_extern Tryd.func68 (by kernel_rfl) (by kernel_rfl) (by kernel_rfl) (e := sub64Entry) (by kernel_rfl)]
    have := run_sub64 (P := Tryd.prog) xn yn 0 (by omega) w
    rw [show ((0 : Nat) : Int) = 0 from rfl] at this
    rw [this]
    rfl
  · refine ⟨⟨Int.natCast_nonneg _, Int.ofNat_lt.2 (Nat.mod_lt _ (by omega))⟩, ⟨Int.natCast_nonneg _, ?_⟩, ?_⟩
    · refine Int.ofNat_lt.2 ?_
      split <;> omega
    · intro h1 h2
      have h1' : xn = 0 := by omega
      have h2' : yn = 0 := by omega
      subst h1' h2'
      exact ⟨rfl, rfl⟩

/-- The two words of a product. -/
def mh (x y : Int) : Int := ((x.toNat * y.toNat / 18446744073709551616 : Nat) : Int)
def ml (x y : Int) : Int := ((x.toNat * y.toNat % 18446744073709551616 : Nat) : Int)
theorem mul_any (x y : Int) (hx : Word x) (hy : Word y) (w : World) : Calls Tryd.prog 43 #[.int .u64 x, .int .u64 y] w fun e w' => e = .returned (.tuple #[.int .u64 (mh x y), .int .u64 (ml x y)]) ∧ w' = w := by
  obtain ⟨xn, rfl⟩ := Int.eq_ofNat_of_zero_le hx.1
  obtain ⟨yn, rfl⟩ := Int.eq_ofNat_of_zero_le hy.1
  have := hx.2; have := hy.2
  exact Tryd.bits_Mul64 xn yn (by omega) (by omega) w
theorem mh_word (x y : Int) (hx : Word x) (hy : Word y) : Word (mh x y) := by
  have h1 := hx.2; have h2 := hy.2
  have h3 := Nat.mul_le_mul (show x.toNat ≤ 18446744073709551615 by omega) (show y.toNat ≤ 18446744073709551615 by omega)
  have h4 : x.toNat * y.toNat / 18446744073709551616 < 18446744073709551616 := (Nat.div_lt_iff_lt_mul (by omega)).2 (Nat.lt_of_le_of_lt h3 (by decide))
  exact ⟨Int.natCast_nonneg _, Int.ofNat_lt.2 h4⟩
theorem ml_word (x y : Int) : Word (ml x y) := ⟨Int.natCast_nonneg _, Int.ofNat_lt.2 (Nat.mod_lt _ (by omega))⟩
theorem mh_zero (y : Int) : mh 0 y = 0 := by unfold mh; simp
theorem ml_zero (y : Int) : ml 0 y = 0 := by unfold ml; simp

/-- The two words of a shift. -/
theorem shl_any (h l : Int) (s : Nat) (hh : Word h) (hl : Word l) (hs : s < 2 ^ 64) : ∃ a c : Int, Hid (∀ w, Calls Tryd.prog 46 #[.int .u64 h, .int .u64 l, .int .u64 (s : Int)] w fun e w' => e = .returned (.tuple #[.int .u64 a, .int .u64 c]) ∧ w = w') ∧ Word a ∧ Word c ∧ (h = 0 → l = 0 → a = 0 ∧ c = 0) := by
  obtain ⟨hn, rfl⟩ := Int.eq_ofNat_of_zero_le hh.1
  obtain ⟨ln, rfl⟩ := Int.eq_ofNat_of_zero_le hl.1
  have h1 := hh.2; have h2 := hl.2
  refine ⟨_, _, shl128_c hn ln s _ _ (by omega) (by omega) hs rfl rfl, ⟨Int.natCast_nonneg _, Int.ofNat_lt.2 (lt_mod _)⟩, ⟨Int.natCast_nonneg _, Int.ofNat_lt.2 (lt_mod _)⟩, ?_⟩
  intro z1 z2
  have z1' : hn = 0 := by omega
  have z2' : ln = 0 := by omega
  subst z1' z2'
  simp

def RetTwoZ (Z : Prop) (e : Ending) : Prop := ∃ x y : Int, e = .returned (.tuple #[.int .u64 x, .int .u64 y]) ∧ Word x ∧ Word y ∧ (Z → x = 0 ∧ y = 0)

set_option maxHeartbeats 2000000 in
theorem remainder_c {b m o : Nat} {e : Int} {d f : Nat} (h : RateOK b m o e d f) (hd : d = 0) (p : Int) (hp : Word p) (w : World) :
    Calls Tryd.prog 61 #[.agg #[.int .u64 (m : Int), .int .u64 (o : Int), .int .i64 e, .int .u64 (d : Int), .int .u64 (f : Int)], .int .u64 p] w fun e' w' => RetTwoZ (p = 0) e' ∧ Below w.heap.size w w' := by
  have hm1 := h.m1; have ho1 := h.o1; have he1 := h.e1; have he2 := h.e2
  have he := (h.slow hd).2
  have Wm : Word (m : Int) := ⟨by omega, by omega⟩
  have Wo : Word (o : Int) := ⟨by omega, by omega⟩
  have Ww := wi_word h hd p hp
  have C60 : Hid (∀ (x : Int) w', Word x → HeldB w m o e d f w' → Calls Tryd.prog 60 #[.agg #[.int .u64 (m : Int), .int .u64 (o : Int), .int .i64 e, .int .u64 (d : Int), .int .u64 (f : Int)], .int .u64 x] w' fun e' w'' => e' = .returned (.int .u64 (wi m o e x)) ∧ HeldB w m o e d f w'') := fun x w' hx hH => within_any h hd w x hx w' hH
  have C43 : Hid (∀ (x y : Int) w', Word x → Word y → Calls Tryd.prog 43 #[.int .u64 x, .int .u64 y] w' fun e w'' => e = .returned (.tuple #[.int .u64 (mh x y), .int .u64 (ml x y)]) ∧ w'' = w') := fun x y w' hx hy => mul_any x y hx hy w'
  obtain ⟨s, hs⟩ : ∃ s : Nat, IntKind.i64.wrap (-e) = (s : Int) := ⟨(-e).toNat, by rw [IntKind.wrap_i64]; omega⟩
  have hs' : IntKind.u64.wrap (s : Int) = (s : Int) := by rw [IntKind.wrap_i64] at hs; rw [IntKind.wrap_u64]; omega
  obtain ⟨a, c, C46, Wa, Wc, z46⟩ := shl_any (mh (wi m o e p) o) (ml (wi m o e p) o) s (mh_word _ _ Ww Wo) (ml_word _ _) (by rw [IntKind.wrap_i64] at hs; omega)
  obtain ⟨D, B, hsub, HSB⟩ := sub68 (ml p m) c (ml_word _ _) Wc
  have HR : Hid (Word (IntKind.u64.wrap (IntKind.u64.wrap (mh p m - a) - B)) ∧ Word D ∧ (p = 0 → IntKind.u64.wrap (IntKind.u64.wrap (mh p m - a) - B) = 0 ∧ D = 0)) := by
    refine ⟨?_, HSB.out.1, ?_⟩
    · rw [IntKind.wrap_u64]; exact ⟨by omega, by omega⟩
    · intro hz
      subst hz
      rw [wi_zero, mh_zero, ml_zero] at z46
      obtain ⟨z1, z2⟩ := z46 rfl rfl
      obtain ⟨z3, z4⟩ := HSB.out.2.2 (ml_zero _) z2
      rw [mh_zero, z1, z4]
      exact ⟨rfl, z3⟩
  have HN := heldB_new m o e d f w
  have HN1 := HN.drew
  subst hd
  clear h hm1 ho1 he1 he2 he z46 HSB
  go_enter Tryd.func61, Tryd.ntmps61
  go_wp2_with fail
  refine (C43.out _ _ _ hp Wm).mono ?_
  rintro e w1 ⟨rfl, rfl⟩
  go_upto_region 2 with fail
  go_cut [6, 7] (fun s6 s7 wx => s6 = .int .u64 (mh (wi m o e p) o) ∧ s7 = .int .u64 (ml (wi m o e p) o) ∧ HeldB w m o e 0 f wx)
  case first =>
    go_region_with (first
      | (go_at_call 60; refine (C60.out _ _ (by assumption) (by assumption)).mono ?_; rintro e w5 ⟨rfl, hS5⟩; have c0 := hS5.c0; have c1 := hS5.c1; have c2 := hS5.c2; have c3 := hS5.c3; have c4 := hS5.c4)
      | (go_at_call 43; refine (C43.out _ _ _ (by assumption) (by assumption)).mono ?_; rintro e w6 ⟨rfl, rfl⟩))
    all_goals (go_wp2_with fail; go_meet)
    all_goals exact ⟨rfl, rfl, hS5⟩
  case rest =>
    obtain ⟨rfl, rfl, hS⟩ := hcut
    have c0 := hS.c0; have c1 := hS.c1; have c2 := hS.c2; have c3 := hS.c3; have c4 := hS.c4
    have HL : Hid (Below w.heap.size w wc) := hS.low
    clear hS HN HN1
    go_wp2_with fail
    refine (C46.out _).mono ?_
    rintro e w1 ⟨rfl, rfl⟩
    go_wp2_with (simp only [hsub])
    go_ret2
    exact ⟨⟨_, _, rfl, HR.out.1, HR.out.2.1, HR.out.2.2⟩, HL.out⟩

end Go.Proofs.Qxb6616096aDoor
