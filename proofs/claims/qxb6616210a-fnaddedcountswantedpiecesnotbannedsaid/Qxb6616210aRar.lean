import Derived.Test.Qxb6616210aPerm
namespace Go.Proofs.Qxb6616210a
set_option linter.unusedVariables false
set_option linter.unusedSimpArgs false

/-- How many of the first n stand in a group below g. -/
def cntLt (f : Nat → Nat) (g : Nat) : Nat → Nat
  | 0 => 0
  | n + 1 => cntLt f g n + if f n < g then 1 else 0

theorem cntLt_mono (f : Nat → Nat) {g h : Nat} (hg : g ≤ h) (n : Nat) : cntLt f g n ≤ cntLt f h n := by
  induction n with
  | zero => exact Nat.le_refl _
  | succ n ih =>
    unfold cntLt
    by_cases h1 : f n < g
    · rw [if_pos h1, if_pos (by omega)]; omega
    · rw [if_neg h1]; split <;> omega

theorem cntLt_all (f : Nat → Nat) (g n : Nat) (h : ∀ j, j < n → f j < g) : cntLt f g n = n := by
  induction n with
  | zero => rfl
  | succ n ih => unfold cntLt; rw [ih (fun j hj => h j (by omega)), if_pos (h n (by omega))]

theorem cntLt_le (f : Nat → Nat) (g n : Nat) : cntLt f g n ≤ n := by
  induction n with
  | zero => exact Nat.le_refl _
  | succ n ih => unfold cntLt; split <;> omega

theorem cntLt_out (f : Nat → Nat) (i v g n : Nat) (hi : n ≤ i) : cntLt (upd f i v) g n = cntLt f g n := by
  induction n with
  | zero => rfl
  | succ n ih => unfold cntLt; rw [ih (by omega), upd_other _ _ _ (by omega)]

theorem cntLt_upd (f : Nat → Nat) (i g n : Nat) (hi : i < n) : cntLt (upd f i (f i + 1)) g n + (if g = f i + 1 then 1 else 0) = cntLt f g n := by
  induction n with
  | zero => omega
  | succ n ih =>
    unfold cntLt
    by_cases h : i = n
    · subst h
      rw [cntLt_out _ _ _ _ _ (Nat.le_refl _), upd_same]
      by_cases h1 : g = f i + 1
      · rw [if_pos h1, if_neg (by omega), if_pos (by omega)]
      · rw [if_neg h1]
        by_cases h2 : f i < g
        · rw [if_pos (by omega), if_pos h2]
        · rw [if_neg (by omega), if_neg h2]
    · rw [upd_other _ _ _ (Ne.symm h)]
      have := ih (by omega)
      omega

/-- A well-formed order: all but the highest group. -/
structure Inv0 (n L : Nat) (order pos group start : Nat → Nat) : Prop where
  o : ∀ x, x < n → order x < n ∧ pos (order x) = x
  p : ∀ i, i < n → pos i < n ∧ order (pos i) = i
  g : ∀ j, j < n → 1 ≤ group j ∧ group j + 2 ≤ L
  s : ∀ g, g < L → start g = cntLt group g n
  a : ∀ j, j < n → start (group j) ≤ pos j ∧ pos j < start (group j + 1)

/-- .. and the highest. -/
structure Inv (n L : Nat) (order pos group start : Nat → Nat) : Prop where
  i : Inv0 n L order pos group start
  t : L = 3 ∨ ∃ j, j < n ∧ group j + 2 = L

section
variable {n L : Nat} {order pos group start : Nat → Nat}

theorem Inv0.mono (h : Inv0 n L order pos group start) {g k : Nat} (hg : g ≤ k) (hk : k < L) : start g ≤ start k := by
  rw [h.s g (by omega), h.s k hk]; exact cntLt_mono _ hg _

/-- The two places swapped, in one group's stretch. -/
theorem Inv0.swap (h : Inv0 n L order pos group start) {g x y : Nat} (hx : start g ≤ x ∧ x < start (g + 1)) (hy : start g ≤ y ∧ y < start (g + 1)) (hxn : x < n) (hyn : y < n) (hgL : g + 2 ≤ L) :
    Inv0 n L (sw order x y) (upd (upd pos (order x) y) (order y) x) group start := by
  have inG : ∀ z, z < n → start g ≤ z → z < start (g + 1) → group (order z) = g := by
    intro z hz h1 h2
    obtain ⟨q1, q2⟩ := h.o z hz
    obtain ⟨r1, r2⟩ := h.a (order z) q1
    rw [q2] at r1 r2
    obtain ⟨_, s2⟩ := h.g (order z) q1
    rcases Nat.lt_trichotomy (group (order z)) g with c | c | c
    · have := h.mono (show group (order z) + 1 ≤ g by omega) (by omega); omega
    · exact c
    · have := h.mono (show g + 1 ≤ group (order z) by omega) (by omega); omega
  have gx := inG x hxn hx.1 hx.2
  have gy := inG y hyn hy.1 hy.2
  obtain ⟨ox1, ox2⟩ := h.o x hxn
  obtain ⟨oy1, oy2⟩ := h.o y hyn
  have inj : ∀ a b, a < n → b < n → order a = order b → a = b := fun a b ha hb e => by rw [← (h.o a ha).2, ← (h.o b hb).2, e]
  refine ⟨?_, ?_, h.g, h.s, ?_⟩
  · intro z hz
    obtain ⟨q1, q2⟩ := h.o z hz
    unfold sw
    by_cases h1 : z = y
    · subst h1
      rw [upd_same]
      refine ⟨ox1, ?_⟩
      by_cases h2 : order x = order z
      · have := inj x z hxn hz h2; subst this; rw [upd_same]
      · rw [upd_other _ _ _ h2, upd_same]
    · rw [upd_other _ _ _ h1]
      by_cases h2 : z = x
      · subst h2
        rw [upd_same]
        exact ⟨oy1, by rw [upd_same]⟩
      · rw [upd_other _ _ _ h2]
        refine ⟨q1, ?_⟩
        rw [upd_other _ _ _ (fun e => h1 (inj z y hz hyn e)), upd_other _ _ _ (fun e => h2 (inj z x hz hxn e))]
        exact q2
  · intro i hi
    obtain ⟨q1, q2⟩ := h.p i hi
    by_cases h1 : i = order y
    · subst h1
      rw [upd_same]
      refine ⟨hxn, ?_⟩
      unfold sw
      by_cases h2 : x = y
      · subst h2; rw [upd_same]
      · rw [upd_other _ _ _ h2, upd_same]
    · rw [upd_other _ _ _ h1]
      by_cases h2 : i = order x
      · subst h2
        rw [upd_same]
        exact ⟨hyn, by unfold sw; rw [upd_same]⟩
      · rw [upd_other _ _ _ h2]
        refine ⟨q1, ?_⟩
        unfold sw
        rw [upd_other _ _ _ (fun e => h1 (by rw [← e]; exact q2.symm)), upd_other _ _ _ (fun e => h2 (by rw [← e]; exact q2.symm))]
        exact q2
  · intro j hj
    have hp := h.a j hj
    by_cases h1 : j = order y
    · subst h1; rw [upd_same, gy]; exact hx
    · rw [upd_other _ _ _ h1]
      by_cases h2 : j = order x
      · subst h2; rw [upd_same, gx]; exact hy
      · rw [upd_other _ _ _ h2]; exact hp

/-- One group more. -/
theorem Inv0.grow (h : Inv0 n L order pos group start) : Inv0 n (L + 1) order pos group (upd start L n) := by
  refine ⟨h.o, h.p, fun j hj => ⟨(h.g j hj).1, by have := (h.g j hj).2; omega⟩, fun g hg => ?_, fun j hj => ?_⟩
  · by_cases hgL : g = L
    · subst hgL; rw [upd_same, cntLt_all _ _ _ (fun j hj => by have := (h.g j hj).2; omega)]
    · rw [upd_other _ _ _ hgL]; exact h.s g (by omega)
  · have := (h.g j hj).2
    rw [upd_other _ _ _ (by omega), upd_other _ _ _ (by omega)]
    exact h.a j hj

/-- A piece at the last place of its group goes up one group. -/
theorem Inv0.up (h : Inv0 n L order pos group start) {i : Nat} (hi : i < n) (hL : group i + 3 ≤ L) (hp : pos i + 1 = start (group i + 1)) :
    Inv0 n L order pos (upd group i (group i + 1)) (upd start (group i + 1) (start (group i + 1) - 1)) := by
  obtain ⟨g, hg⟩ : ∃ g, g = group i := ⟨_, rfl⟩
  rw [← hg] at hL hp ⊢
  have hm := h.mono (show g + 1 ≤ g + 1 + 1 by omega) (show g + 1 + 1 < L by omega)
  refine ⟨h.o, h.p, ?_, ?_, ?_⟩
  · intro j hj
    by_cases hji : j = i
    · subst hji; rw [upd_same]; omega
    · rw [upd_other _ _ _ hji]; exact h.g j hj
  · intro k hk
    have hc := cntLt_upd group i k n hi
    rw [← hg] at hc
    by_cases hkg : k = g + 1
    · subst hkg
      rw [upd_same, h.s _ hk]
      rw [if_pos rfl] at hc
      omega
    · rw [upd_other _ _ _ hkg, h.s _ hk]
      rw [if_neg hkg] at hc
      omega
  · intro j hj
    by_cases hji : j = i
    · subst hji
      rw [upd_same, upd_same, upd_other _ _ _ (by omega)]
      omega
    · rw [upd_other _ _ _ hji]
      obtain ⟨q1, q2⟩ := h.a j hj
      have hne : pos j ≠ pos i := fun e => hji (by rw [← (h.p j hj).2, ← (h.p i hi).2, e])
      by_cases h1 : group j = g + 1
      · rw [h1] at q1 q2 ⊢
        rw [upd_same, upd_other _ _ _ (by omega)]
        omega
      · rw [upd_other _ _ _ h1]
        by_cases h2 : group j + 1 = g + 1
        · rw [h2, upd_same]
          rw [h2] at q2
          omega
        · rw [upd_other _ _ _ h2]
          exact ⟨q1, q2⟩
end

end Go.Proofs.Qxb6616210a
