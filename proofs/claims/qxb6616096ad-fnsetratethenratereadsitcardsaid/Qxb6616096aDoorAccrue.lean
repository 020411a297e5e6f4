import Derived.Test.Qxb6616096aDoorWithin
namespace Go.Proofs.Qxb6616096aDoor
open Go.RowKit
set_option linter.unusedVariables false
set_option linter.unusedSimpArgs false
set_option maxRecDepth 100000
open Pl

/-- A boxed rate, held. -/
structure HeldB (w : World) (m o e d f : Int) (w' : World) : Prop where
  c0 : w'.cell? ⟨w.heap.size, 0, Option.none⟩ = some (.int .u64 m)
  c1 : w'.cell? ⟨w.heap.size, 1, Option.none⟩ = some (.int .u64 o)
  c2 : w'.cell? ⟨w.heap.size, 2, Option.none⟩ = some (.int .i64 e)
  c3 : w'.cell? ⟨w.heap.size, 3, Option.none⟩ = some (.int .u64 d)
  c4 : w'.cell? ⟨w.heap.size, 4, Option.none⟩ = some (.int .u64 f)
  low : Below w.heap.size w w'

theorem HeldB.below {w w' w'' : World} {m o e d f : Int} (h : HeldB w m o e d f w') (hb : Below w'.heap.size w' w'') : HeldB w m o e d f w'' := by
  have l0 := World.block_lt_of_cell? w' _ h.c0
  exact ⟨(hb.cell (p := ⟨w.heap.size, 0, Option.none⟩) l0).trans h.c0, (hb.cell (p := ⟨w.heap.size, 1, Option.none⟩) l0).trans h.c1, (hb.cell (p := ⟨w.heap.size, 2, Option.none⟩) l0).trans h.c2,
    (hb.cell (p := ⟨w.heap.size, 3, Option.none⟩) l0).trans h.c3, (hb.cell (p := ⟨w.heap.size, 4, Option.none⟩) l0).trans h.c4, h.low.trans (hb.mono h.low.size)⟩

theorem HeldB.drew {w w' : World} {m o e d f : Int} (h : HeldB w m o e d f w') : HeldB w m o e d f w'.drew := ⟨h.c0, h.c1, h.c2, h.c3, h.c4, h.low.drew⟩

theorem heldB_new (m o e d f : Int) (w : World) : HeldB w m o e d f (w.alloc (.cells #[.int .u64 m, .int .u64 o, .int .i64 e, .int .u64 d, .int .u64 f] 54)) :=
  ⟨by simp [go_sem], by simp [go_sem], by simp [go_sem], by simp [go_sem], by simp [go_sem], (Below.refl _ _).alloc (Nat.le_refl _) _⟩

theorem within_held {b m o : Nat} {e : Int} {d f : Nat} (h : RateOK b m o e d f) (hd : d = 0) (w : World) (t : Nat) (ht : t < 2 ^ 64) (w' : World) (hH : HeldB w m o e d f w') :
    Calls Tryd.prog 60 #[.agg #[.int .u64 (m : Int), .int .u64 (o : Int), .int .i64 e, .int .u64 (d : Int), .int .u64 (f : Int)], .int .u64 (t : Int)] w' fun e' w'' => e' = .returned (.int .u64 ((withinOf m o e t : Nat) : Int)) ∧ HeldB w m o e d f w'' :=
  (within_c h hd t ht w').mono fun e' w'' ⟨h1, n, h2⟩ => ⟨h1, hH.below (by rw [h2]; exact below_drewN ((Below.refl _ _).alloc (Nat.le_refl _) _) n)⟩

def RetTwo (e : Ending) : Prop := ∃ x y : Int, e = .returned (.tuple #[.int .u64 x, .int .u64 y]) ∧ Word x ∧ Word y

/-- within, by its word. -/
def wi (m o : Nat) (e x : Int) : Int := ((withinOf m o e x.toNat : Nat) : Int)
theorem wi_zero (m o : Nat) (e : Int) : wi m o e 0 = 0 := by
  unfold wi
  rw [show (0 : Int).toNat = 0 from rfl, withinOf_zero]; rfl

theorem within_any {b m o : Nat} {e : Int} {d f : Nat} (h : RateOK b m o e d f) (hd : d = 0) (w : World) (x : Int) (hx : Word x) (w' : World) (hH : HeldB w m o e d f w') :
    Calls Tryd.prog 60 #[.agg #[.int .u64 (m : Int), .int .u64 (o : Int), .int .i64 e, .int .u64 (d : Int), .int .u64 (f : Int)], .int .u64 x] w' fun e' w'' => e' = .returned (.int .u64 (wi m o e x)) ∧ HeldB w m o e d f w'' := by
  obtain ⟨t, rfl⟩ := Int.eq_ofNat_of_zero_le hx.1
  exact within_held h hd w t (by have := hx.2; omega) w' hH

theorem wi_word {b m o : Nat} {e : Int} {d f : Nat} (h : RateOK b m o e d f) (hd : d = 0) (x : Int) (hx : Word x) : Word (wi m o e x) := by
  have := (within_lt h hd x.toNat (by have := hx.1; have := hx.2; omega)).2
  exact ⟨Int.natCast_nonneg _, Int.ofNat_lt.2 this⟩

set_option maxHeartbeats 1000000 in
theorem accrue_slow {b m o : Nat} {e : Int} {d f : Nat} (h : RateOK b m o e d f) (hd : d = 0) (t : Nat) (ht : t < f) (w : World) :
    Calls Tryd.prog 49 #[.agg #[.int .u64 (m : Int), .int .u64 (o : Int), .int .i64 e, .int .u64 (d : Int), .int .u64 (f : Int)], .int .u64 0, .int .u64 (t : Int)] w fun e' w' => RetTwo e' ∧ Below w.heap.size w w' := by
  have hf : f ≤ 18446744073709551615 := by rw [h.fill]; exact Nat.min_le_right _ _
  have W0 : Word 0 := ⟨by omega, by omega⟩
  have W1 : Word (t : Int) := ⟨by omega, by omega⟩
  have C1 : Hid (∀ (x : Int) w', Word x → HeldB w m o e d f w' → Calls Tryd.prog 60 #[.agg #[.int .u64 (m : Int), .int .u64 (o : Int), .int .i64 e, .int .u64 (d : Int), .int .u64 (f : Int)], .int .u64 x] w' fun e' w'' => e' = .returned (.int .u64 (wi m o e x)) ∧ HeldB w m o e d f w'') := fun x w' hx hH => within_any h hd w x hx w' hH
  have HX : Hid (Word (IntKind.u64.wrap (wi m o e t - wi m o e 0))) := by
    show Word _
    rw [IntKind.wrap_u64]
    exact ⟨by omega, by omega⟩
  have k1 : decide (f ≤ t) = false := decide_eq_false (by omega)
  have k2 : IntKind.u64.wrap (t : Int) = (t : Int) := by rw [IntKind.wrap_u64]; omega
  have HN := heldB_new m o e d f w
  have HN1 := HN.drew
  subst hd
  clear h ht hf
  go_enter Tryd.func49, Tryd.ntmps49
  go_wp2_with fail
  go_region_with (first | (go_at_call 60; refine (C1.out _ _ (by assumption) (by assumption)).mono ?_; rintro e w5 ⟨rfl, hS5⟩; have c0 := hS5.c0; have c1 := hS5.c1; have c2 := hS5.c2; have c3 := hS5.c3; have c4 := hS5.c4))
  all_goals go_wp2_with fail
  all_goals simp [bodyPost, results, Tryd.results49, go_sem]
  all_goals exact ⟨⟨_, _, rfl, HX.out, W1⟩, hS5.low⟩

set_option maxHeartbeats 2000000 in
theorem accrue_w (m o e d f t H L q r : Int) (k1 : decide (f ≤ t) = false) (k2 : (d == 0) = false) (c43 : Hid (Two 43 #[.int .u64 t, .int .u64 m] H L))
    (hE : (decide (0 < e) = false ∧ Hid (∀ w, Calls Tryd.prog 48 #[.int .u64 H, .int .u64 L, .int .u64 d] w fun e w' => e = .returned (.tuple #[.int .u64 q, .int .u64 r]) ∧ ∃ n, w' = w.drewN n) ∧ IntKind.u64.wrap H = H ∧ (∀ w, (callFunc 47 #[.int .u64 L, .int .u64 0, .int .u64 0]).run Tryd.prog w = .ok (.value (.tuple #[.int .u64 L, .int .u64 0])) w)) ∨
      ∃ s a c : Int, decide (0 < e) = true ∧ IntKind.u64.wrap e = s ∧ Hid (Two 46 #[.int .u64 H, .int .u64 L, .int .u64 s] a c) ∧ Hid (∀ w, Calls Tryd.prog 48 #[.int .u64 a, .int .u64 c, .int .u64 d] w fun e w' => e = .returned (.tuple #[.int .u64 q, .int .u64 r]) ∧ ∃ n, w' = w.drewN n) ∧ IntKind.u64.wrap a = a ∧ (∀ w, (callFunc 47 #[.int .u64 c, .int .u64 0, .int .u64 0]).run Tryd.prog w = .ok (.value (.tuple #[.int .u64 c, .int .u64 0])) w)) (w : World) :
    Calls Tryd.prog 49 #[.agg #[.int .u64 m, .int .u64 o, .int .i64 e, .int .u64 d, .int .u64 f], .int .u64 0, .int .u64 t] w fun e' w' => e' = .returned (.tuple #[.int .u64 q, .int .u64 r]) ∧ ∃ n, w' = (w.alloc (.cells (rateCells m o e d f) 54)).drewN n := by
  rcases hE with ⟨k3, c48, hw, hadd⟩ | ⟨s, a, c, k3, hs, c46, c48, hw, hadd⟩
  · go_enter Tryd.func49, Tryd.ntmps49
    go_wp2_with fail
    refine (c43.out _).mono ?_
    rintro e w1 ⟨rfl, rfl⟩
    go_wp2_with (simp only [hadd])
    refine (c48.out _).mono ?_
    rintro e w1 ⟨rfl, n, rfl⟩
    go_wp2_with fail
    go_ret2
    exact ⟨rfl, n, rfl⟩
  · go_enter Tryd.func49, Tryd.ntmps49
    go_wp2_with fail
    refine (c43.out _).mono ?_
    rintro e w1 ⟨rfl, rfl⟩
    go_wp2_with fail
    refine (c46.out _).mono ?_
    rintro e w1 ⟨rfl, rfl⟩
    go_wp2_with (simp only [hadd])
    refine (c48.out _).mono ?_
    rintro e w1 ⟨rfl, n, rfl⟩
    go_wp2_with fail
    go_ret2
    exact ⟨rfl, n, rfl⟩

theorem add47_zero (L : Nat) (hL : L < 2 ^ 64) (w : World) : (callFunc 47 #[.int .u64 (L : Int), .int .u64 0, .int .u64 0]).run Tryd.prog w = .ok (.value (.tuple #[.int .u64 (L : Int), .int .u64 0])) w := by
  have e1 : ((L : Int) + 0 + 0) % 18446744073709551616 = (L : Int) := by omega
  have e2 : ((L : Int) + 0 + 0) / 18446744073709551616 = 0 := by omega
  rw [add47 _ _ _ (by omega) (by omega) (by omega) (by omega), e1, e2]

theorem accrue_fast {b m o : Nat} {e : Int} {d f : Nat} (h : RateOK b m o e d f) (hd : d ≠ 0) (t : Nat) (ht : t < f) (w : World) :
    Calls Tryd.prog 49 #[.agg #[.int .u64 (m : Int), .int .u64 (o : Int), .int .i64 e, .int .u64 (d : Int), .int .u64 (f : Int)], .int .u64 0, .int .u64 (t : Int)] w fun e' w' => RetTwo e' ∧ Below w.heap.size w w' := by
  have hf : f ≤ 18446744073709551615 := by rw [h.fill]; exact Nat.min_le_right _ _
  have hden := h.den
  unfold denOf at hden
  have hden2 : d = o * 2 ^ (-e).toNat ∧ d < 18446744073709551616 := by
    by_cases hlt : o * 2 ^ (max (-e) 0).toNat < 18446744073709551616
    · rw [if_pos hlt] at hden
      rw [show (max (-e) 0).toNat = (-e).toNat from by omega] at hden hlt
      exact ⟨hden, by omega⟩
    · rw [if_neg hlt] at hden; exact absurd hden hd
  have hm0 := h.m0; have hm1 := h.m1; have hb1 := h.b1; have he1 := h.e1; have he2 := h.e2
  have hX : t * m * 2 ^ e.toNat < b * d := by
    have h1 : f ≤ cdiv (b * o * 2 ^ (-e).toNat) (m * 2 ^ e.toNat) := by rw [h.fill]; exact Nat.min_le_left _ _
    have h2 : ¬ cdiv (b * o * 2 ^ (-e).toNat) (m * 2 ^ e.toNat) ≤ t := by omega
    rw [cdiv_le _ _ _ (Nat.mul_pos hm0 (Nat.two_pow_pos _))] at h2
    rw [hden2.1, ← Nat.mul_assoc, Nat.mul_assoc t]
    omega
  obtain ⟨N, hN⟩ : ∃ N, N = t * m := ⟨_, rfl⟩
  obtain ⟨X, hXd⟩ : ∃ X, X = N * 2 ^ e.toNat := ⟨_, rfl⟩
  rw [← hN, ← hXd] at hX
  have hX2 : X < 2 ^ 64 * d := Nat.lt_of_lt_of_le hX (Nat.mul_le_mul_right _ (by omega))
  have hX3 : X / 2 ^ 64 < d := (Nat.div_lt_iff_lt_mul (Nat.two_pow_pos 64)).2 (by rw [Nat.mul_comm d]; exact hX2)
  have hN128 : N < 2 ^ 128 := by
    have h1 : t * m ≤ (2 ^ 64 - 1) * (2 ^ 64 - 1) := Nat.mul_le_mul (by omega) (by omega)
    rw [hN]; exact Nat.lt_of_le_of_lt h1 (by decide)
  have hX128 : X < 2 ^ 128 := by
    have h1 : 2 ^ 64 * d ≤ 2 ^ 64 * 2 ^ 64 := Nat.mul_le_mul_left _ (by omega)
    exact Nat.lt_of_lt_of_le hX2 (Nat.le_trans h1 (by decide))
  have c43 := two43 t m (N / 2 ^ 64) (N % 2 ^ 64) (by omega) (by omega) (by rw [hN]) (by rw [hN])
  have c48 := div64_c (X / 2 ^ 64) (X % 2 ^ 64) d hX3 (by omega) (lt_mod _)
  rw [words_of X] at c48
  have hq : X / d < 2 ^ 64 := (Nat.div_lt_iff_lt_mul (by omega)).2 hX2
  have hr : X % d < d := Nat.mod_lt _ (by omega)
  refine (accrue_w m o e d f t _ _ ((X / d : Nat) : Int) ((X % d : Nat) : Int) (decide_eq_false (by omega)) (by rw [beq_eq_false_iff_ne]; omega) c43 ?_ w).mono ?_
  · by_cases he : 0 < e
    · refine .inr ⟨(e.toNat : Int), ((X / 2 ^ 64 : Nat) : Int), ((X % 2 ^ 64 : Nat) : Int), decide_eq_true he, by rw [IntKind.wrap_u64]; omega, ?_, c48, by rw [IntKind.wrap_u64]; omega, fun w => add47_zero _ (lt_mod _) w⟩
      refine shl128_c (N / 2 ^ 64) (N % 2 ^ 64) e.toNat (X / 2 ^ 64) (X % 2 ^ 64) (by omega) (lt_mod _) (by omega) ?_ ?_
      · rw [words_of N, ← hXd, Nat.mod_eq_of_lt (by omega)]
      · rw [words_of N, ← hXd]
    · have hXN : X = N := by rw [hXd, show e.toNat = 0 from by omega, Nat.pow_zero, Nat.mul_one]
      rw [hXN] at c48 hX3 ⊢
      refine .inl ⟨decide_eq_false he, c48, by rw [IntKind.wrap_u64]; omega, fun w => add47_zero _ (lt_mod _) w⟩
  · rintro e' w' ⟨rfl, n, rfl⟩
    refine ⟨⟨_, _, rfl, ⟨Int.natCast_nonneg _, Int.ofNat_lt.2 hq⟩, ⟨Int.natCast_nonneg _, ?_⟩⟩, below_drewN ((Below.refl _ _).alloc (Nat.le_refl _) _) n⟩
    exact Int.ofNat_lt.2 (show X % d < 18446744073709551616 by omega)

theorem accrue_c {b m o : Nat} {e : Int} {d f : Nat} (h : RateOK b m o e d f) (t : Nat) (ht : t < f) (w : World) :
    Calls Tryd.prog 49 #[.agg #[.int .u64 (m : Int), .int .u64 (o : Int), .int .i64 e, .int .u64 (d : Int), .int .u64 (f : Int)], .int .u64 0, .int .u64 (t : Int)] w fun e' w' => RetTwo e' ∧ Below w.heap.size w w' := by
  by_cases hd : d = 0
  · exact accrue_slow h hd t ht w
  · exact accrue_fast h hd t ht w

end Go.Proofs.Qxb6616096aDoor
