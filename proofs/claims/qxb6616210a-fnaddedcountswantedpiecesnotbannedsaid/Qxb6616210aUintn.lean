import Derived.Test.Qxb6616210aRnd2
namespace Go.Proofs.Qxb6616210a
open Go.RowKit
set_option linter.unusedVariables false
set_option linter.unusedSimpArgs false
set_option maxRecDepth 100000

/-- A draw below n. -/
def RetBelow (n : Nat) (e : Ending) : Prop := ∃ r : Nat, e = .returned (.int .u64 (r : Int)) ∧ r < n

set_option maxHeartbeats 1000000 in
theorem uint64n_c (w0 : World) (Q P n : Nat) (hn : 1 ≤ n) (hn2 : n < 4294967296) (x : Nat) (w : World) (h : RH w0 Q P x w) :
    Calls Try.prog 50 #[.pointer (some ⟨Q, 0, Option.none⟩), .int .u64 (n : Int)] w fun e w' => RetBelow n e ∧ ∃ y, RH w0 Q P y w' := by
  have C52 : Hid (∀ x w1, RH w0 Q P x w1 → Calls Try.prog 52 #[.pointer (some ⟨Q, 0, Option.none⟩)] w1 fun e w' => e = .returned (.int .u64 ((drawn x : Nat) : Int)) ∧ RH w0 Q P (nextW x) w') := fun x w1 h => rdraw_c h
  have C53 : Hid (∀ (x : Nat) w1, x < 18446744073709551616 → Calls Try.prog 53 #[.int .u64 (x : Int), .int .u64 (n : Int)] w1 fun e w' => e = .returned (.tuple #[.int .u64 ((x * n / 18446744073709551616 : Nat) : Int), .int .u64 ((x * n % 18446744073709551616 : Nat) : Int)]) ∧ w' = w1) := fun x w1 hx => Try.bits_Mul64 x n hx (by omega) w1
  have HH : Hid (RH w0 Q P x w) := h
  obtain ⟨n1, hn1⟩ : ∃ n1 : Nat, IntKind.u64.wrap ((n : Int) - 1) = (n1 : Int) := ⟨n - 1, by rw [IntKind.wrap_u64]; omega⟩
  have HN1 : Hid (n1 = n - 1) := by show n1 = n - 1; rw [IntKind.wrap_u64] at hn1; omega
  clear h
  by_cases hp : bits .and .u64 (n : Int) (n1 : Int) = 0
  · go_enter Try.func50, Try.ntmps50
    go_wp2_with fail
    refine (C52.out _ _ HH.out).mono ?_
    rintro e w1 ⟨rfl, h1⟩
    have H1 : Hid (RH w0 Q P (nextW x) w1) := h1
    clear h1
    go_wp2_with fail
    go_ret
    refine ⟨⟨drawn x &&& n1, ?_, ?_⟩, _, H1.out⟩
    · have := bits_and_u64_nat (drawn x) n1 (drawn_lt x) (by rw [HN1.out]; omega)
      rw [← this]
      rfl
    · have := @Nat.and_le_right (drawn x) n1
      have := HN1.out
      omega
  · have kp : (bits .and .u64 (n : Int) (n1 : Int) == 0) = false := by rw [beq_eq_false_iff_ne]; exact hp
    clear hp
    go_enter Try.func50, Try.ntmps50
    go_wp2_with fail
    refine (C52.out _ _ HH.out).mono ?_
    rintro e w1 ⟨rfl, h1⟩
    have H1 : Hid (RH w0 Q P (nextW x) w1) := h1
    clear h1
    go_wp2_with fail
    refine (C53.out _ _ (drawn_lt x)).mono ?_
    rintro e w2 ⟨rfl, hw2⟩
    subst hw2
    obtain ⟨q, hq⟩ : ∃ q, q = drawn x * n := ⟨_, rfl⟩
    obtain ⟨hi, hhi⟩ : ∃ hi : Nat, drawn x * n / 18446744073709551616 = hi := ⟨_, rfl⟩
    obtain ⟨lo, hlo⟩ : ∃ lo : Nat, drawn x * n % 18446744073709551616 = lo := ⟨_, rfl⟩
    rw [hhi, hlo]
    have HD : Hid (hi < n) := by
      show hi < n
      rw [← hhi, Nat.div_lt_iff_lt_mul (by decide), Nat.mul_comm n]
      exact (Nat.mul_lt_mul_right (by omega)).2 (drawn_lt x)
    clear hq hhi hlo
    by_cases hl : lo < n
    · have kl : decide ((lo : Int) < (n : Int)) = true := decide_eq_true (by omega)
      obtain ⟨th, hth⟩ : ∃ th : Nat, (IntKind.u64.wrap (-(n : Int))).tmod (n : Int) = (th : Int) := ⟨(18446744073709551616 - n) % n, by
        rw [IntKind.wrap_u64, show (-(n : Int)) % 18446744073709551616 = ((18446744073709551616 - n : Nat) : Int) from by omega, Int.tmod_eq_emod_of_nonneg (by omega)]
        rfl⟩
      have HTH : Hid (th ≤ 18446744073709551616 - n) := by
        show th ≤ _
        rw [IntKind.wrap_u64, show (-(n : Int)) % 18446744073709551616 = ((18446744073709551616 - n : Nat) : Int) from by omega, Int.tmod_eq_emod_of_nonneg (by omega)] at hth
        have h1 := Nat.mod_le (18446744073709551616 - n) n
        have h2 : (((18446744073709551616 - n) % n : Nat) : Int) = (th : Int) := hth
        omega
      obtain ⟨m0, hm0⟩ := onesIn_ex (nextW x)
      have HM0 : Hid (OnesIn (nextW x) m0) := hm0
      clear hm0
      go_wp2_with fail
      go_loopg [5, 6] (m0 + 1) (fun gk s5 s6 wx => ∃ hi lo X : Nat, s5 = .int .u64 (hi : Int) ∧ s6 = .int .u64 (lo : Int) ∧ Aside (hi < n ∧ RH w0 Q P X wx ∧ ((∃ m, gk = m + 1 ∧ OnesIn X m) ∨ (gk = 0 ∧ th ≤ lo))))
      case atStart => exact ⟨hi, lo, nextW x, rfl, rfl, HD.out, H1.out, .inl ⟨m0, rfl, HM0.out⟩⟩
      case round =>
        obtain ⟨hi', lo', X, rfl, rfl, HJ⟩ := hrel
        clear hl kl kp hth HD H1 HM0 HH
        by_cases hlt : lo' < th
        · have kl : decide ((lo' : Int) < (th : Int)) = true := decide_eq_true (by omega)
          obtain ⟨m, hgm, hm⟩ : ∃ m, gk = m + 1 ∧ OnesIn X m := by
            rcases HJ.out.2.2 with h | ⟨_, h⟩
            · exact h
            · omega
          have HM : Hid (OnesIn X m) := hm
          clear hm
          go_wp2_with fail
          refine (C52.out _ _ HJ.out.2.1).mono ?_
          rintro e w3 ⟨rfl, h3⟩
          have H3 : Hid (RH w0 Q P (nextW X) w3) := h3
          clear h3
          go_wp2_with fail
          refine (C53.out _ _ (drawn_lt X)).mono ?_
          rintro e w4 ⟨rfl, hw4⟩
          subst hw4
          obtain ⟨hi2, hhi⟩ : ∃ hi : Nat, drawn X * n / 18446744073709551616 = hi := ⟨_, rfl⟩
          obtain ⟨lo2, hlo⟩ : ∃ lo : Nat, drawn X * n % 18446744073709551616 = lo := ⟨_, rfl⟩
          rw [hhi, hlo]
          have HD : Hid (hi2 < n) := by
            show hi2 < n
            rw [← hhi, Nat.div_lt_iff_lt_mul (by decide), Nat.mul_comm n]
            exact (Nat.mul_lt_mul_right (by omega)).2 (drawn_lt X)
          have HE : Hid (m = 0 → th ≤ lo2) := by
            intro hm0
            subst hm0
            have h1 := onesIn_zero HM.out
            have h2 := HTH.out
            rw [h1] at hlo
            omega
          clear hhi hlo
          go_wp2_with fail
          go_roundg m
          case measure => omega
          case rel =>
            refine ⟨hi2, lo2, nextW X, rfl, rfl, HD.out, H3.out, ?_⟩
            cases m with
            | zero => exact .inr ⟨rfl, HE.out rfl⟩
            | succ m => exact .inl ⟨m, rfl, onesIn_succ HM.out⟩
        · have kl : decide ((lo' : Int) < (th : Int)) = false := decide_eq_false (by omega)
          go_wp2_with fail
          go_ret
          exact ⟨⟨hi', rfl, HJ.out.1⟩, _, HJ.out.2.1⟩
    · have kl : decide ((lo : Int) < (n : Int)) = false := decide_eq_false (by omega)
      go_wp2_with fail
      go_ret
      exact ⟨⟨hi, rfl, HD.out⟩, _, H1.out⟩

set_option maxHeartbeats 1000000 in
/-- Rand.IntN. -/
theorem intN_c (w0 : World) (Q P n : Nat) (hn : 1 ≤ n) (hn2 : n < 4294967296) (x : Nat) (w : World) (h : RH w0 Q P x w) :
    Calls Try.prog 48 #[.pointer (some ⟨Q, 0, Option.none⟩), .int .i64 (n : Int)] w fun e w' => (∃ r : Nat, e = .returned (.int .i64 (r : Int)) ∧ r < n) ∧ ∃ y, RH w0 Q P y w' := by
  have C50 : Hid (Calls Try.prog 50 #[.pointer (some ⟨Q, 0, Option.none⟩), .int .u64 (n : Int)] w fun e w' => RetBelow n e ∧ ∃ y, RH w0 Q P y w') := uint64n_c w0 Q P n hn hn2 x w h
  have k1 : decide ((n : Int) ≤ 0) = false := decide_eq_false (by omega)
  have k2 : IntKind.u64.wrap (n : Int) = (n : Int) := by rw [IntKind.wrap_u64]; omega
  clear h
  go_enter Try.func48, Try.ntmps48
  go_wp2_with fail
  refine C50.out.mono ?_
  rintro e w1 ⟨⟨r, rfl, hr⟩, y, hy⟩
  have HY : Hid (RH w0 Q P y w1 ∧ r < n) := ⟨hy, hr⟩
  have k3 : IntKind.i64.wrap (r : Int) = (r : Int) := by rw [IntKind.wrap_i64]; omega
  clear hy hr
  go_wp2_with fail
  go_ret
  exact ⟨⟨r, rfl, HY.out.2⟩, y, HY.out.1⟩

end Go.Proofs.Qxb6616210a
