import Derived.Test.Qxb6616096aDoorOdd
namespace Go.Proofs.Qxb6616096aDoor
open Go.RowKit
set_option linter.unusedVariables false
set_option linter.unusedSimpArgs false
set_option maxRecDepth 100000
open Pl Flt Ieee

/-- Doubled up. -/
structure Up (t x : Nat) (e : Int) (j : Nat) : Prop where
  pos : 0 < x
  fin : x < 9218868437227405312
  exp : e = -(j : Int)
  val : V x = V t * 2 ^ j
  low : j = 0 ∨ x < 4845873199050653696

theorem Up.few {t x : Nat} {e : Int} {j : Nat} (h : Up t x e j) (ht : 0 < t) : j < 1127 := by
  rcases h.low with h0 | h0
  · omega
  · have h1 := (V_lt_iff x (1076 * 2 ^ 52)).2 (by omega)
    have hw := V_word 1076 (by omega)
    obtain ⟨N, hN⟩ : ∃ N, N = 1076 + 51 := ⟨_, rfl⟩
    rw [← hN] at hw
    rw [hw, h.val] at h1
    have h2 : 2 ^ j ≤ V t * 2 ^ j := Nat.le_mul_of_pos_left _ (V_pos ht)
    have h3 : 2 ^ j < 2 ^ N := Nat.lt_of_le_of_lt h2 h1
    have := (Nat.pow_lt_pow_iff_right (by omega)).1 h3
    omega

theorem Up.step {t x : Nat} {e : Int} {j : Nat} (h : Up t x e j) (hx : x < 4841369599423283200) : Up t (dbl x) (e - 1) (j + 1) ∧ floatBits .mul .f64 x 4611686018427387904 = some (dbl x) ∧ 4841369599423283200 - dbl x < 4841369599423283200 - x := by
  have hd : dbl x < 4845873199050653696 ∧ x < dbl x := by
    have := h.pos
    unfold dbl; split <;> omega
  refine ⟨⟨by have := h.pos; omega, by omega, by have := h.exp; omega, ?_, .inr hd.1⟩, ?_, by omega⟩
  · rw [V_dbl, h.val, Nat.pow_succ, Nat.mul_assoc]
  · have := mul_two x (by omega) h.pos
    rw [Nat.min_eq_left (by omega)] at this
    exact this

/-- Halved down. -/
structure Down (t x : Nat) (e : Int) (i j : Nat) : Prop where
  low : 4841369599423283200 ≤ x
  fin : x < 9218868437227405312
  exp : e = (i : Int) - (j : Int)
  val : V x * 2 ^ i = V t * 2 ^ j
  side : x < 4845873199050653696 ∨ (j = 0 ∧ t = x + i * 4503599627370496)
  few : i < 2047 ∧ j < 1127

theorem Down.step {t x : Nat} {e : Int} {i j : Nat} (h : Down t x e i j) (ht : t < 9218868437227405312) (hx : 4845873199050653696 ≤ x) : Down t (x - 4503599627370496) (e + 1) (i + 1) j ∧ floatBits .quo .f64 x 4611686018427387904 = some (x - 4503599627370496) := by
  obtain ⟨h1, h2, h3, h4, h5, h6⟩ := h
  rcases h5 with h5 | ⟨h5, h7⟩
  · omega
  · refine ⟨⟨by omega, by omega, by omega, ?_, .inr ⟨h5, by omega⟩, by omega, h6.2⟩, ?_⟩
    · have hh := V_half x (by omega)
      rw [show (2 : Nat) ^ 52 = 4503599627370496 from rfl] at hh
      obtain ⟨y, hy⟩ : ∃ y, y = x - 4503599627370496 := ⟨_, rfl⟩
      rw [← hy] at hh ⊢
      rw [← h4, ← hh, Nat.pow_succ, Nat.mul_comm (2 ^ i) 2, Nat.mul_assoc]
    · exact div_two x (by omega) (by omega)

set_option maxHeartbeats 4000000 in
theorem oddMant_c (t m z : Nat) (h0 : 0 < t) (ht : t < 9218868437227405312) (hV : V t = m * 2 ^ z) (hm : m % 2 = 1) (w : World) :
    Calls Tryd.prog 26 #[.float .f64 t] w fun e w' => e = .returned (.tuple #[.int .u64 (m : Int), .int .i64 ((z : Int) - 1074)]) ∧ w = w' := by
  have HT : Hid (0 < t ∧ t < 9218868437227405312) := ⟨h0, ht⟩
  have HV : Hid (V t = m * 2 ^ z ∧ m % 2 = 1) := ⟨hV, hm⟩
  obtain ⟨ef, hef⟩ : ∃ ef : Int, ef = (z : Int) - 1074 := ⟨_, rfl⟩
  rw [← hef]
  have HEF : Hid (ef = (z : Int) - 1074) := hef
  clear h0 ht hV hm hef
  go_enter Tryd.func26, Tryd.ntmps26
  go_wp2_with fail
  go_loop [0, 4] (fun a b => ∃ (x : Nat) (e : Int) (j : Nat), a = .float .f64 x ∧ b = .int .i64 e ∧ Hid (Up t x e j)) (fun a b => match a with | .float _ x => 4841369599423283200 - x | _ => 0)
  case atStart => exact ⟨t, 0, 0, rfl, rfl, HT.out.1, HT.out.2, rfl, by simp, .inl rfl⟩
  case round =>
    obtain ⟨x, e, j, rfl, rfl, HU⟩ := hrel
    have ho := order_f x 4841369599423283200 (Nat.le_of_lt HU.out.fin) (by omega)
    by_cases hx : x < 4841369599423283200
    · have k1 : (FloatKind.f64.format.order x 4841369599423283200 == some .lt) = true := by rw [ho, Nat.compare_eq_lt.2 hx]; rfl
      obtain ⟨hU, hmul, hms⟩ := HU.out.step hx
      have hr := fun w => run_float_arith (P := Tryd.prog) w .mul 22 .f64 x 4611686018427387904 (dbl x) hmul
      have hj := HU.out.few HT.out.1
      have he : IntKind.i64.wrap (e - 1) = e - 1 := by
        have := HU.out.exp
        rw [IntKind.wrap_i64]; omega
      obtain ⟨y, hy⟩ : ∃ y, y = dbl x := ⟨_, rfl⟩
      obtain ⟨e2, he2⟩ : ∃ e2, e2 = e - 1 := ⟨_, rfl⟩
      rw [← hy] at hU hr hms
      have HE1 : Hid (RowKit.wrap64 (e - 1) = e2) := by rw [he2]; rw [IntKind.wrap_i64] at he; show RowKit.wrap64 _ = _; unfold RowKit.wrap64; exact he
      clear he
      rw [← he2] at hU
      have HU2 : Hid (Up t y e2 (j + 1)) := hU
      clear ho hx hU hmul hj hy he2 HU
      go_wp2_with fail
      go_round
      case rel => exact ⟨y, e2, j + 1, rfl, congrArg (Value.int IntKind.i64) HE1.out, HU2.out⟩
      case measure => exact hms
    · have k1 : (FloatKind.f64.format.order x 4841369599423283200 == some .lt) = false := by
        rw [ho]
        rcases Nat.lt_or_eq_of_le (show 4841369599423283200 ≤ x by omega) with h | h
        · rw [Nat.compare_eq_gt.2 h]; rfl
        · rw [← h, Nat.compare_eq_eq.2 rfl]; rfl
      have HD0 : Hid (Down t x e 0 j) := by
        have hU := HU.out
        refine ⟨by omega, hU.fin, by have := hU.exp; omega, by rw [Nat.pow_zero, Nat.mul_one]; exact hU.val, ?_, by omega, hU.few HT.out.1⟩
        rcases hU.low with h | h
        · refine .inr ⟨h, ?_⟩
          have := hU.val
          rw [h, Nat.pow_zero, Nat.mul_one] at this
          have := V_inj this
          omega
        · exact .inl h
      clear ho hx HU
      go_wp2_with fail
      go_loop [0, 4] (fun a b => ∃ (x : Nat) (e : Int) (i j : Nat), a = .float .f64 x ∧ b = .int .i64 e ∧ Hid (Down t x e i j)) (fun a b => match a with | .float _ x => x | _ => 0)
      case atStart => exact ⟨x, e, 0, j, rfl, rfl, HD0⟩
      case round =>
        clear HD0 k1
        obtain ⟨x2, e2, i2, j2, rfl, rfl, HD⟩ := hrel
        have ho := order_f x2 4845873199050653696 (Nat.le_of_lt HD.out.fin) (by omega)
        by_cases hx : 4845873199050653696 ≤ x2
        · have k2 : (FloatKind.f64.format.order x2 4845873199050653696 == some .gt || FloatKind.f64.format.order x2 4845873199050653696 == some .eq) = true := by
            rw [ho]
            rcases Nat.lt_or_eq_of_le hx with h | h
            · rw [Nat.compare_eq_gt.2 h]; rfl
            · rw [← h, Nat.compare_eq_eq.2 rfl]; rfl
          obtain ⟨hD, hdiv⟩ := HD.out.step HT.out.2 hx
          have hr := fun w => run_float_arith (P := Tryd.prog) w .quo 22 .f64 x2 4611686018427387904 (x2 - 4503599627370496) hdiv
          have he : IntKind.i64.wrap (e2 + 1) = e2 + 1 := by
            have := HD.out.exp
            have := HD.out.few
            rw [IntKind.wrap_i64]; omega
          obtain ⟨y, hy⟩ : ∃ y, y = x2 - 4503599627370496 := ⟨_, rfl⟩
          obtain ⟨e3, he3⟩ : ∃ e3, e3 = e2 + 1 := ⟨_, rfl⟩
          have hms : Hid (y < x2) := by show y < x2; omega
          rw [← hy] at hD hr
          have HE1 : Hid (RowKit.wrap64 (e2 + 1) = e3) := by rw [he3]; rw [IntKind.wrap_i64] at he; show RowKit.wrap64 _ = _; unfold RowKit.wrap64; exact he
          clear he
          rw [← he3] at hD
          have HD2 : Hid (Down t y e3 (i2 + 1) j2) := hD
          clear ho hx hD hdiv hy he3 HD
          go_wp2_with fail
          go_round
          case rel => exact ⟨y, e3, i2 + 1, j2, rfl, congrArg (Value.int IntKind.i64) HE1.out, HD2.out⟩
          case measure => exact hms.out
        · have k2 : (FloatKind.f64.format.order x2 4845873199050653696 == some .gt || FloatKind.f64.format.order x2 4845873199050653696 == some .eq) = false := by
            rw [ho, Nat.compare_eq_lt.2 (by omega)]; rfl
          obtain ⟨F, hF⟩ : ∃ F, x2 = 1075 * 4503599627370496 + F := ⟨x2 - 1075 * 4503599627370496, by have := HD.out.low; omega⟩
          have hF' : F < 4503599627370496 := by omega
          obtain ⟨M, hM⟩ : ∃ M, M = 4503599627370496 + F := ⟨_, rfl⟩
          have hcv := fun w => run_convert_float_int (P := Tryd.prog) w 22 38 .f64 .u64 x2 (M : Int) (by rw [Tryd.underlying22]; rfl) Tryd.underlying38 (by rw [hF, hM]; exact toInt_53 F hF')
          have HM : Hid (V x2 = M * 2 ^ 1074 ∧ 0 < M ∧ M < 2 ^ 64) := by
            refine ⟨?_, by omega, by omega⟩
            have h1 : ¬ x2 < 2 ^ 52 := by omega
            have h2 : x2 % 2 ^ 52 = F := by omega
            have h3 : x2 / 2 ^ 52 - 1 = 1074 := by omega
            unfold V mg ex
            rw [if_neg h1, h2, h3, hM]
          clear ho hx hF hF' hM
          go_wp2_with fail
          go_loop [4, 5] (fun b a => ∃ (mi : Int) (mn : Nat) (e3 : Int) (q : Nat), a = .int .u64 mi ∧ b = .int .i64 e3 ∧ Hid (mi = (mn : Int) ∧ Halved M mn q ∧ e3 = e2 + (q : Int))) (fun b a => (intOf a).toNat)
          case atStart => exact ⟨(M : Int), M, e2, 0, rfl, rfl, rfl, ⟨by simp, HM.out.2.1, HM.out.2.2, by omega⟩, by omega⟩
          case round =>
            clear k2
            obtain ⟨mi, mn, e3, q, rfl, rfl, HH⟩ := hrel
            by_cases hmo : mn % 2 = 0
            · have k3 : bits .and .u64 mi 1 = 0 := by rw [HH.out.1]; exact and1_even mn hmo HH.out.2.1.low
              obtain ⟨m2, hm2⟩ : ∃ m2 : Int, mi / 2 = m2 := ⟨_, rfl⟩
              have he : IntKind.i64.wrap (e3 + 1) = e3 + 1 := by
                have h1 := HD.out.exp
                have h2 := HD.out.few
                have h3 := HH.out.2.2
                have h4 := HH.out.2.1.few
                rw [IntKind.wrap_i64]; omega
              obtain ⟨e4, he4⟩ : ∃ e4, e4 = e3 + 1 := ⟨_, rfl⟩
              have HH2 : Hid ((m2 = ((mn / 2 : Nat) : Int) ∧ Halved M (mn / 2) (q + 1) ∧ e4 = e2 + ((q + 1 : Nat) : Int)) ∧ m2.toNat < mi.toNat) := by
                refine ⟨⟨?_, HH.out.2.1.step HM.out.2.2 hmo, ?_⟩, ?_⟩
                · rw [← hm2, HH.out.1]; omega
                · have := HH.out.2.2; omega
                · have := HH.out.2.1.pos
                  rw [← hm2, HH.out.1]; omega
              have HE1 : Hid (RowKit.wrap64 (e3 + 1) = e4) := by rw [he4]; rw [IntKind.wrap_i64] at he; show RowKit.wrap64 _ = _; unfold RowKit.wrap64; exact he
              clear he
              clear HH hmo he4
              go_wp2_with fail
              go_round
              case rel => exact ⟨m2, mn / 2, e4, q + 1, rfl, congrArg (Value.int IntKind.i64) HE1.out, HH2.out.1⟩
              case measure => exact HH2.out.2
            · have hodd : mn % 2 = 1 := by omega
              have k3 : bits .and .u64 mi 1 = 1 := by rw [HH.out.1]; exact and1 mn hodd HH.out.2.1.low
              have key : mn * 2 ^ (q + 1074 + i2) = m * 2 ^ (z + j2) := by
                have h1 := HD.out.val
                rw [HM.out.1, HV.out.1, HH.out.2.1.eq] at h1
                rw [Nat.pow_add, Nat.pow_add, Nat.pow_add, ← Nat.mul_assoc, ← Nat.mul_assoc, ← Nat.mul_assoc]
                exact h1
              obtain ⟨e1, e5⟩ := Pl.odd_unique key hodd HV.out.2
              have HE : Hid (mi = (m : Int) ∧ e3 = ef) := ⟨by rw [HH.out.1, e1], by
                have h1 := HD.out.exp
                have h3 := HH.out.2.2
                have h4 := HEF.out
                omega⟩
              clear HH hmo hodd key e1 e5
              go_wp2_with fail
              go_ret2
              refine ⟨?_, rfl⟩
              exact ret_2 HE.out.1 HE.out.2

end Go.Proofs.Qxb6616096aDoor
