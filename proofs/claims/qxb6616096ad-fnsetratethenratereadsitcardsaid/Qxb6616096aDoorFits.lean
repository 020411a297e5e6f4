import Derived.Test.Qxb6616096aDoorShift
namespace Go.Proofs.Qxb6616096aDoor
open Go.RowKit
set_option linter.unusedVariables false
set_option linter.unusedSimpArgs false
set_option maxRecDepth 100000

namespace Pl
/-- A number in two words. -/
theorem two_words (M : Nat) : M % 2 ^ 128 = M / 2 ^ 64 % 2 ^ 64 * 2 ^ 64 + M % 2 ^ 64 := by
  have e : (2 : Nat) ^ 128 = 2 ^ 64 * 2 ^ 64 := by decide
  rw [e, Nat.mod_mul, Nat.mul_comm, Nat.add_comm]

theorem words_eq (h l c d : Nat) (hl : l < 2 ^ 64) (hd : d < 2 ^ 64) (h1 : h * 2 ^ 64 + l = c * 2 ^ 64 + d) : h = c ∧ l = d := by omega

theorem fits_iff (N s : Nat) : (N * 2 ^ s % 2 ^ 128 / 2 ^ s = N) ↔ N * 2 ^ s < 2 ^ 128 := by
  have g : 0 < 2 ^ s := Nat.two_pow_pos s
  constructor
  · intro h
    have h1 : N * 2 ^ s ≤ N * 2 ^ s % 2 ^ 128 := by
      have := Nat.div_mul_le_self (N * 2 ^ s % 2 ^ 128) (2 ^ s)
      rwa [h] at this
    exact Nat.lt_of_le_of_lt h1 (Nat.mod_lt _ (Nat.two_pow_pos 128))
  · intro h
    rw [Nat.mod_eq_of_lt h, Nat.mul_div_cancel _ g]
end Pl

set_option maxHeartbeats 2000000 in
theorem fits_walk (h l s a b c d : Nat) (f : Bool) (c1 : ∀ w, Calls Tryd.prog 46 #[.int .u64 h, .int .u64 l, .int .u64 s] w fun e w' => e = .returned (.tuple #[.int .u64 a, .int .u64 b]) ∧ w = w')
    (c2 : ∀ w, Calls Tryd.prog 45 #[.int .u64 a, .int .u64 b, .int .u64 s] w fun e w' => e = .returned (.tuple #[.int .u64 c, .int .u64 d]) ∧ w = w')
    (hf : f = true ↔ (c = h ∧ d = l)) (w : World) :
    Calls Tryd.prog 44 #[.int .u64 h, .int .u64 l, .int .u64 s] w fun e w' => e = .returned (.tuple #[.int .u64 a, .int .u64 b, .bool f]) ∧ w = w' := by
  have H1 : Hid (∀ w, Calls Tryd.prog 46 #[.int .u64 h, .int .u64 l, .int .u64 s] w fun e w' => e = .returned (.tuple #[.int .u64 a, .int .u64 b]) ∧ w = w') := c1
  have H2 : Hid (∀ w, Calls Tryd.prog 45 #[.int .u64 a, .int .u64 b, .int .u64 s] w fun e w' => e = .returned (.tuple #[.int .u64 c, .int .u64 d]) ∧ w = w') := c2
  clear c1 c2
  by_cases hc : c = h
  · have k1 : ((c : Int) == (h : Int)) = true := by simp [hc]
    by_cases hd : d = l
    · have k2 : ((d : Int) == (l : Int)) = true := by simp [hd]
      have k3 : f = true := hf.2 ⟨hc, hd⟩
      subst k3
      clear hf hc hd
      go_enter Tryd.func44, Tryd.ntmps44
      go_wp2_with fail
      refine (H1.out _).mono ?_
      rintro e w1 ⟨rfl, rfl⟩
      go_wp2_with fail
      refine (H2.out _).mono ?_
      rintro e w1 ⟨rfl, rfl⟩
      go_wp2_with fail
      simp [bodyPost, results, Tryd.results44, go_sem]
    · have k2 : ((d : Int) == (l : Int)) = false := by simp; omega
      have k3 : f = false := by
        cases f
        · rfl
        · exact absurd (hf.1 rfl).2 hd
      subst k3
      clear hf hc hd
      go_enter Tryd.func44, Tryd.ntmps44
      go_wp2_with fail
      refine (H1.out _).mono ?_
      rintro e w1 ⟨rfl, rfl⟩
      go_wp2_with fail
      refine (H2.out _).mono ?_
      rintro e w1 ⟨rfl, rfl⟩
      go_wp2_with fail
      simp [bodyPost, results, Tryd.results44, go_sem]
  · have k1 : ((c : Int) == (h : Int)) = false := by simp; omega
    have k3 : f = false := by
      cases f
      · rfl
      · exact absurd (hf.1 rfl).1 hc
    subst k3
    clear hf hc
    go_enter Tryd.func44, Tryd.ntmps44
    go_wp2_with fail
    refine (H1.out _).mono ?_
    rintro e w1 ⟨rfl, rfl⟩
    go_wp2_with fail
    refine (H2.out _).mono ?_
    rintro e w1 ⟨rfl, rfl⟩
    go_wp2_with fail
    simp [bodyPost, results, Tryd.results44, go_sem]

theorem shl128Fits_c (h l s a b : Nat) (hh : h < 2 ^ 64) (hl : l < 2 ^ 64) (hs : s < 2 ^ 64) (ha : a = (h * 2 ^ 64 + l) * 2 ^ s / 2 ^ 64 % 2 ^ 64) (hb : b = (h * 2 ^ 64 + l) * 2 ^ s % 2 ^ 64) (w : World) :
    Calls Tryd.prog 44 #[.int .u64 h, .int .u64 l, .int .u64 s] w fun e w' => e = .returned (.tuple #[.int .u64 a, .int .u64 b, .bool (decide ((h * 2 ^ 64 + l) * 2 ^ s < 2 ^ 128))]) ∧ w = w' := by
  have ha' : a < 2 ^ 64 := by rw [ha]; exact lt_mod _
  have hb' : b < 2 ^ 64 := by rw [hb]; exact lt_mod _
  have hab : a * 2 ^ 64 + b = (h * 2 ^ 64 + l) * 2 ^ s % 2 ^ 128 := by rw [Pl.two_words, ha, hb]
  have hM : (a * 2 ^ 64 + b) / 2 ^ s < 2 ^ 128 := Nat.lt_of_le_of_lt (Nat.div_le_self _ _) (by omega)
  refine fits_walk h l s a b ((a * 2 ^ 64 + b) / 2 ^ s / 2 ^ 64) ((a * 2 ^ 64 + b) / 2 ^ s % 2 ^ 64) _ (shl128_c h l s a b hh hl hs ha hb) (shr128_c a b s _ _ ha' hb' hs rfl rfl) ?_ w
  rw [decide_eq_true_eq, ← Pl.fits_iff, ← hab]
  generalize (a * 2 ^ 64 + b) / 2 ^ s = R at *
  clear hab ha hb ha' hb' hs
  omega

end Go.Proofs.Qxb6616096aDoor
