import Derived.Test.Qxb6616096aDoorOdd2
namespace Go.Proofs.Qxb6616096aDoor
open Go.RowKit
set_option linter.unusedVariables false
set_option linter.unusedSimpArgs false
set_option maxRecDepth 100000
open Pl Flt Ieee

/-- Shifted so far. -/
structure Shl (N hn ln k : Nat) : Prop where
  h : hn < 2 ^ 64
  l : ln < 2 ^ 64
  val : hn * 2 ^ 64 + ln = N * 2 ^ k

theorem Shl.step {N hn ln k : Nat} (g : Shl N hn ln k) (ht : hn < 2 ^ 63) : Shl N (2 * hn + ln / 2 ^ 63) (2 * ln % 2 ^ 64) (k + 1) := by
  obtain ⟨h1, h2, h3⟩ := g
  refine ⟨by omega, by omega, ?_⟩
  have e : N * 2 ^ (k + 1) = N * 2 ^ k * 2 := by rw [Nat.pow_succ, Nat.mul_assoc]
  rw [e, ← h3, Nat.add_mul, Nat.add_mul]
  clear e h3
  omega

theorem or_bit (a b : Nat) (ha : a < 2 ^ 63) (hb : b < 2) : bits .or .u64 ((2 * a : Nat) : Int) (b : Int) = ((2 * a + b : Nat) : Int) := by
  have h := bits_or_u64_nat (2 * a) b (by omega) (by omega)
  have e : (2 * a) ||| b = 2 * a + b := by
    have := Nat.two_pow_add_eq_or_of_lt (i := 1) (b := b) (by omega) a
    rw [Nat.pow_one] at this
    exact this.symm
  rw [e] at h
  exact h

theorem ret3 {a b c d : Int} {x : Bool} (h1 : a = c) (h2 : b = d) : Ending.returned (.tuple #[.int .u64 a, .int .u64 b, .bool x]) = .returned (.tuple #[.int .u64 c, .int .u64 d, .bool x]) := by rw [h1, h2]

/-- What shlFits answers. -/
def ShlRet (N s : Nat) (e : Ending) : Prop :=
  (N * 2 ^ s < 2 ^ 128 ∧ e = .returned (.tuple #[.int .u64 ((N * 2 ^ s / 2 ^ 64 : Nat) : Int), .int .u64 ((N * 2 ^ s % 2 ^ 64 : Nat) : Int), .bool true])) ∨
  (¬ N * 2 ^ s < 2 ^ 128 ∧ e = .returned (.tuple #[.int .u64 0, .int .u64 0, .bool false]))

set_option maxHeartbeats 4000000 in
theorem shlFits_c (h l s : Nat) (hh : h < 2 ^ 64) (hl : l < 2 ^ 64) (hs : s < 9223372036854775807) (w : World) :
    Calls Tryd.prog 28 #[.int .u64 (h : Int), .int .u64 (l : Int), .int .i64 (s : Int)] w fun e w' => ShlRet (h * 2 ^ 64 + l) s e ∧ w = w' := by
  obtain ⟨N, hN⟩ : ∃ N, N = h * 2 ^ 64 + l := ⟨_, rfl⟩
  rw [← hN]
  have H0 : Hid (Shl N h l 0) := ⟨hh, hl, by rw [Nat.pow_zero, Nat.mul_one]; exact hN.symm⟩
  clear hN hh hl
  go_enter Tryd.func28, Tryd.ntmps28
  go_wp2_with fail
  go_loop [0, 1, 9] (fun x y z => ∃ (hi li : Int) (hn ln k : Nat), x = .int .u64 hi ∧ y = .int .u64 li ∧ z = .int .i64 (k : Int) ∧ k ≤ s ∧ Hid (hi = (hn : Int) ∧ li = (ln : Int) ∧ Shl N hn ln k)) (fun x y z => s - (intOf z).toNat)
  case atStart => exact ⟨_, _, h, l, 0, rfl, rfl, rfl, Nat.zero_le _, rfl, rfl, H0.out⟩
  case round =>
    obtain ⟨hi, li, hn, ln, k, rfl, rfl, rfl, hk, HG⟩ := hrel
    by_cases hlt : k < s
    · by_cases ht : hn < 2 ^ 63
      · have k1 : hi / 9223372036854775808 = 0 := by rw [HG.out.1]; omega
        obtain ⟨h2, hh2⟩ : ∃ h2 : Int, h2 = ((2 * hn + ln / 2 ^ 63 : Nat) : Int) := ⟨_, rfl⟩
        obtain ⟨l2, hl2⟩ : ∃ l2 : Int, l2 = ((2 * ln % 2 ^ 64 : Nat) : Int) := ⟨_, rfl⟩
        have k2 : bits .or .u64 (hi * 2) (li / 9223372036854775808) = h2 := by
          have g := HG.out.2.2
          have e1 : hi * 2 = ((2 * hn : Nat) : Int) := by rw [HG.out.1]; omega
          have e2 : li / 9223372036854775808 = ((ln / 2 ^ 63 : Nat) : Int) := by rw [HG.out.2.1]; omega
          rw [e1, e2, hh2]
          exact or_bit hn _ ht (by have := g.l; omega)
        have k3 : IntKind.u64.wrap (li * 2) = l2 := by rw [HG.out.2.1, IntKind.wrap_u64, hl2]; omega
        have HG2 : Hid (h2 = ((2 * hn + ln / 2 ^ 63 : Nat) : Int) ∧ l2 = ((2 * ln % 2 ^ 64 : Nat) : Int) ∧ Shl N (2 * hn + ln / 2 ^ 63) (2 * ln % 2 ^ 64) (k + 1)) := ⟨hh2, hl2, HG.out.2.2.step ht⟩
        clear HG hh2 hl2 ht
        go_wp2_with fail
        go_round
        case rel => exact ⟨h2, l2, _, _, k + 1, rfl, rfl, by go_num, by omega, HG2.out⟩
        case measure => simp [intOf]; omega
      · have k1 : hi / 9223372036854775808 = 1 := by rw [HG.out.1]; have := HG.out.2.2.h; omega
        have HF : Hid (¬ N * 2 ^ s < 2 ^ 128) := by
          have g := HG.out.2.2.val
          have h1 : 2 ^ 127 ≤ N * 2 ^ k := by rw [← g]; omega
          have h2 : 2 ^ s = 2 ^ k * (2 * 2 ^ (s - k - 1)) := by
            rw [← Nat.pow_succ', ← Nat.pow_add]; congr 1; omega
          have h3 : 1 ≤ 2 ^ (s - k - 1) := Nat.two_pow_pos _
          show ¬ N * 2 ^ s < 2 ^ 128
          rw [h2, ← Nat.mul_assoc]
          have h4 : 2 ^ 127 * 2 ≤ N * 2 ^ k * (2 * 2 ^ (s - k - 1)) := Nat.mul_le_mul h1 (by omega)
          omega
        clear HG ht
        go_wp2_with fail
        simp [bodyPost, results, Tryd.results28, go_sem]
        exact .inr ⟨HF.out, rfl⟩
    · have HF : Hid (N * 2 ^ s < 2 ^ 128 ∧ hi = ((N * 2 ^ s / 2 ^ 64 : Nat) : Int) ∧ li = ((N * 2 ^ s % 2 ^ 64 : Nat) : Int)) := by
        obtain ⟨e1, e2, g⟩ := HG.out
        have hks : k = s := by omega
        have g2 := g.val
        have g3 := g.h
        have g4 := g.l
        rw [hks] at g2
        rw [← g2, e1, e2]
        refine ⟨by omega, by omega, by omega⟩
      clear HG
      go_wp2_with fail
      simp [bodyPost, results, Tryd.results28, go_sem]
      exact .inl ⟨HF.out.1, ret3 HF.out.2.1 HF.out.2.2⟩

/-- The sign of a difference. -/
def sgn (A B : Nat) : Int := if A < B then -1 else if A = B then 0 else 1

set_option maxHeartbeats 1000000 in
theorem cmp128_w (ah al bh bl r : Int) (h : ((ah != bh) = true ∧ decide (ah < bh) = true ∧ r = -1) ∨ ((ah != bh) = true ∧ decide (ah < bh) = false ∧ r = 1) ∨
    ((ah != bh) = false ∧ (al != bl) = true ∧ decide (al < bl) = true ∧ r = -1) ∨ ((ah != bh) = false ∧ (al != bl) = true ∧ decide (al < bl) = false ∧ r = 1) ∨ ((ah != bh) = false ∧ (al != bl) = false ∧ r = 0)) (w : World) :
    Calls Tryd.prog 51 #[.int .u64 ah, .int .u64 al, .int .u64 bh, .int .u64 bl] w fun e w' => e = .returned (.int .i64 r) ∧ w = w' := by
  rcases h with ⟨k1, k2, rfl⟩ | ⟨k1, k2, rfl⟩ | ⟨k1, k2, k3, rfl⟩ | ⟨k1, k2, k3, rfl⟩ | ⟨k1, k2, rfl⟩
  all_goals
    go_enter Tryd.func51, Tryd.ntmps51
    go_wp2_with fail
    go_ret
    exact ⟨rfl, rfl⟩

theorem cmp128_c (ah al bh bl : Nat) (h2 : al < 2 ^ 64) (h4 : bl < 2 ^ 64) (w : World) :
    Calls Tryd.prog 51 #[.int .u64 (ah : Int), .int .u64 (al : Int), .int .u64 (bh : Int), .int .u64 (bl : Int)] w fun e w' => e = .returned (.int .i64 (sgn (ah * 2 ^ 64 + al) (bh * 2 ^ 64 + bl))) ∧ w = w' := by
  refine cmp128_w ah al bh bl _ ?_ w
  unfold sgn
  rcases Nat.lt_trichotomy ah bh with h | h | h
  · exact .inl ⟨by rw [bne_iff_ne]; omega, decide_eq_true (by omega), by rw [if_pos (by omega)]⟩
  · subst h
    have e : ((ah : Int) != (ah : Int)) = false := by simp
    rcases Nat.lt_trichotomy al bl with g | g | g
    · exact .inr (.inr (.inl ⟨e, by rw [bne_iff_ne]; omega, decide_eq_true (by omega), by rw [if_pos (by omega)]⟩))
    · subst g
      exact .inr (.inr (.inr (.inr ⟨e, by simp, by rw [if_neg (by omega), if_pos rfl]⟩)))
    · exact .inr (.inr (.inr (.inl ⟨e, by rw [bne_iff_ne]; omega, decide_eq_false (by omega), by rw [if_neg (by omega), if_neg (by omega)]⟩)))
  · exact .inr (.inl ⟨by rw [bne_iff_ne]; omega, decide_eq_false (by omega), by rw [if_neg (by omega), if_neg (by omega)]⟩)

end Go.Proofs.Qxb6616096aDoor
