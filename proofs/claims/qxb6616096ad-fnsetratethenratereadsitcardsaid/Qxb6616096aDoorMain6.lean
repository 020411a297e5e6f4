import Derived.Test.Qxb6616096aDoorDom
import Derived.Deep.LoopGhost
namespace Go.Proofs.Qxb6616096aDoor
open Go.RowKit
set_option linter.unusedVariables false
set_option linter.unusedSimpArgs false
set_option maxRecDepth 100000
open Pl Flt Ieee

/-- Every positive number is an odd one times a power of two. -/
theorem odd_split (n : Nat) (h : 0 < n) : ∃ m z, n = m * 2 ^ z ∧ m % 2 = 1 := by
  induction n using Nat.strongRecOn with
  | ind n ih =>
    by_cases h1 : n % 2 = 1
    · exact ⟨n, 0, by simp, h1⟩
    · obtain ⟨m, z, e, hm⟩ := ih (n / 2) (by omega) (by omega)
      refine ⟨m, z + 1, ?_, hm⟩
      rw [Nat.pow_succ, ← Nat.mul_assoc, ← e]
      omega

theorem odd_V_lt (t m z : Nat) (h0 : 0 < t) (hV : V t = m * 2 ^ z) (hm : m % 2 = 1) : m < 2 ^ 53 := by
  have hmg : 0 < mg t := mg_pos t h0
  have hmg' : mg t < 2 ^ 53 := by
    unfold mg; split
    · omega
    · have := Nat.mod_lt t (Nat.two_pow_pos 52); omega
  obtain ⟨m', z', e, hm'⟩ := odd_split (mg t) hmg
  have h1 : m * 2 ^ z = m' * 2 ^ (z' + ex t) := by
    rw [← hV, Nat.pow_add, ← Nat.mul_assoc, ← e]; rfl
  obtain ⟨h2, _⟩ := Pl.odd_unique h1 hm hm'
  have h3 : m' ≤ mg t := by
    have : m' * 1 ≤ m' * 2 ^ z' := Nat.mul_le_mul_left _ (Nat.two_pow_pos z')
    omega
  omega

theorem fill_pos1 (b o m : Nat) (e : Int) (hb : 0 < b) (ho : 0 < o) (hm : 0 < m) : 1 ≤ fillOf b o m e := by
  unfold fillOf
  have h1 : 0 < b * o * 2 ^ (-e).toNat := Nat.mul_pos (Nat.mul_pos hb ho) (Nat.two_pow_pos _)
  have h2 : 0 < m * 2 ^ e.toNat := Nat.mul_pos hm (Nat.two_pow_pos _)
  have : ¬ cdiv (b * o * 2 ^ (-e).toNat) (m * 2 ^ e.toNat) ≤ 0 := by
    rw [cdiv_le _ _ _ h2]; omega
  omega

theorem and1 (m : Nat) (h : m % 2 = 1) (hm : m < 2 ^ 64) : bits .and .u64 (m : Int) 1 = 1 := by
  have e := bits_and_u64_nat m 1 hm (by omega)
  rw [show m &&& 1 = m % 2 from Nat.and_one_is_mod m, h] at e
  exact e

/-- The word after some doublings. -/
def Dbl (t x k : Nat) : Prop := 0 < x ∧ x ≤ 9218868437227405312 ∧ (x < 9218868437227405312 → V x = V t * 2 ^ k)

theorem dbl_step {t x k : Nat} (h : Dbl t x k) : ∃ y, floatBits .mul .f64 x 4611686018427387904 = some y ∧ Dbl t y (k + 1) := by
  obtain ⟨h0, h1, h2⟩ := h
  rcases Nat.lt_or_eq_of_le h1 with h | h
  · refine ⟨_, mul_two x (by omega) h0, ?_, by omega, ?_⟩
    · have : 0 < dbl x := by unfold dbl; split <;> omega
      omega
    · intro hlt
      rw [Nat.min_eq_left (by omega), V_dbl, h2 h, Nat.pow_succ, Nat.mul_assoc]
  · subst h
    exact ⟨_, mul_two_inf, by omega, by omega, fun hlt => absurd hlt (by omega)⟩

set_option maxHeartbeats 4000000 in
theorem main6 (burst : Int) (t : Nat) (per j : Int) (w : World) (ht : t < 2 ^ 64) (hb1 : -9223372036854775808 ≤ burst) (hb2 : burst ≤ 9223372036854775807) (hp1 : -9223372036854775808 ≤ per) (hp2 : per ≤ 9223372036854775807) (hj1 : -9223372036854775808 ≤ j) (hj2 : j ≤ 9223372036854775807) (hT : Tab w) :
    Calls Tryd.prog 6 #[.int .i64 burst, .float .f64 t, .int .i64 per, .int .i64 j] w fun e w' => e = .returned (.bool true) ∧ Below w.heap.size w w' := by
  have HT : Hid (Tab w) := hT
  have C15 : Hid (∀ w, Calls Tryd.prog 15 #[.int .i64 burst, .float .f64 t, .int .i64 per] w fun e w' => RetDom burst t per e ∧ ∃ n, w' = w.drewN n) := limitDomain_c burst t per ht
  clear hT
  by_cases g1 : j < 0
  · have g1' : decide (j < 0) = true := decide_eq_true g1
    go_enter Tryd.func6, Tryd.ntmps6
    go_wp2_with fail
    go_ret
    exact ⟨rfl, Below.refl _ _⟩
  have g1' : decide (j < 0) = false := decide_eq_false g1
  by_cases g2 : 62 < j
  · have g2' : decide (62 < j) = true := decide_eq_true g2
    go_enter Tryd.func6, Tryd.ntmps6
    go_wp2_with fail
    go_ret
    exact ⟨rfl, Below.refl _ _⟩
  have g2' : decide (62 < j) = false := decide_eq_false g2
  obtain ⟨jn, rfl⟩ := Int.eq_ofNat_of_zero_le (show 0 ≤ j by omega)
  have hjn : Hid (jn ≤ 62) := by show jn ≤ 62; omega
  obtain ⟨mx, hmx⟩ : ∃ mx : Int, 9223372036854775807 / 2 ^ min jn 64 = mx := ⟨_, rfl⟩
  have HMX : Hid (mx = ((9223372036854775807 / 2 ^ jn : Nat) : Int)) := by
    show mx = _
    rw [← hmx, show min jn 64 = jn from by omega]
    exact cast_divpow 9223372036854775807 jn
  have hju : IntKind.u64.wrap (jn : Int) = (jn : Int) := by rw [IntKind.wrap_u64]; omega
  clear g1 g2 hj1 hj2
  go_enter Tryd.func6, Tryd.ntmps6
  go_wp2_with fail
  refine (C15.out _).mono ?_
  rintro e w1 ⟨⟨x, rfl, hx⟩, n1, rfl⟩
  cases x
  case false =>
    go_wp2_with fail
    go_ret
    exact ⟨rfl, below_drewN (Below.refl _ _) _⟩
  have HD : Hid (Dom burst t per) := hx rfl
  clear hx
  by_cases g3 : mx < per
  · have g3' : decide (mx < per) = true := decide_eq_true g3
    go_wp2_with fail
    go_ret
    exact ⟨rfl, below_drewN (Below.refl _ _) _⟩
  have g3' : decide (mx < per) = false := decide_eq_false g3
  have HG3 : Hid (per ≤ mx) := by show per ≤ mx; omega
  clear g3
  go_wp2_with fail
  go_loop [9, 10] (fun s9 s10 => ∃ x k : Nat, s9 = .float .f64 x ∧ s10 = .int .i64 (k : Int) ∧ k ≤ jn ∧ Hid (Dbl t x k)) (fun s9 s10 => jn - (intOf s10).toNat)
  case atStart => exact ⟨t, 0, rfl, rfl, Nat.zero_le _, HD.out.2.2.1, Nat.le_of_lt HD.out.2.2.2.1, fun _ => by simp⟩
  case round =>
    obtain ⟨x, k, rfl, rfl, hk, HX⟩ := hrel
    by_cases hlt : k < jn
    · obtain ⟨y, hy, hY⟩ := dbl_step HX.out
      have HY : Hid (Dbl t y (k + 1)) := hY
      have hmul := fun w => run_float_arith (P := Tryd.prog) w .mul 22 .f64 x 4611686018427387904 y hy
      have hk62 : k < 62 := by have := hjn.out; omega
      clear HX hy hY
      go_wp2_with fail
      go_round
      case rel => exact ⟨y, k + 1, rfl, by go_num, by omega, HY.out⟩
      case measure => simp [intOf]; omega
    · have hke : Hid (k = jn) := by show k = jn; omega
      have C18 : Hid (∀ w, Calls Tryd.prog 18 #[.float .f64 x] w fun e w' => e = .returned (.bool (decide (x < 9218868437227405312))) ∧ ∃ n, w' = w.drewN n) := finite_pos x HX.out.2.1
      by_cases hfin : x < 9218868437227405312
      case neg =>
        rw [decide_eq_false hfin] at C18
        clear hfin
        go_wp2_with fail
        refine (C18.out _).mono ?_
        rintro e w1 ⟨rfl, n2, rfl⟩
        go_wp2_with fail
        go_ret
        exact ⟨rfl, below_drewN (Below.refl _ _) _⟩
      rw [decide_eq_true hfin] at C18
      have HF : Hid (x < 9218868437227405312) := hfin
      clear hfin
      obtain ⟨m, z, hV, hm⟩ := odd_split (V t) (V_pos HD.out.2.2.1)
      have hper := HD.out.2.2.2.2
      obtain ⟨pn, rfl⟩ := Int.eq_ofNat_of_zero_le (show 0 ≤ per by omega)
      obtain ⟨o, q, hP, ho⟩ := odd_split pn (by omega)
      have hV2 : V x = m * 2 ^ (z + jn) := by
        rw [HX.out.2.2 HF.out, hke.out, hV, Nat.pow_add, Nat.mul_assoc]
      have hple : pn * 2 ^ jn ≤ 9223372036854775807 := by
        have h1 := HG3.out
        rw [HMX.out] at h1
        exact (Nat.le_div_iff_mul_le (Nat.two_pow_pos jn)).1 ((leI _ _).1 h1)
      obtain ⟨p2, hp2d⟩ : ∃ p2 : Nat, p2 = pn * 2 ^ jn := ⟨_, rfl⟩
      have hp2o : p2 = o * 2 ^ (q + jn) := by rw [hp2d, hP, Nat.pow_add, Nat.mul_assoc]
      have hp20 : 0 < p2 := by rw [hp2d]; exact Nat.mul_pos (by omega) (Nat.two_pow_pos _)
      have hp2w : IntKind.i64.wrap ((pn : Int) * 2 ^ min jn 64) = (p2 : Int) := by
        rw [show min jn 64 = jn from by have := hjn.out; omega, IntKind.wrap_i64]
        have e : (pn : Int) * 2 ^ jn = (p2 : Int) := by rw [hp2d]; simp
        rw [e]; omega
      obtain ⟨ex, hex⟩ : ∃ ex : Int, ex = (z : Int) - 1074 - (q : Int) := ⟨_, rfl⟩
      have C16 := fun w' hb => keyed_c t burst (pn : Int) m z o q HD.out.2.2.1 HD.out.2.2.2.1 (by have := HD.out.1; omega) (by omega) (by omega) (by omega) hV hm (by rw [hP]) ho w' (HT.out.below hb)
      have C16' := fun w' hb => keyed_c x burst (p2 : Int) m (z + jn) o (q + jn) HX.out.1 HF.out (by have := HD.out.1; omega) (by omega) (by omega) (by omega) hV2 hm (by rw [hp2o]) ho w' (HT.out.below hb)
      rw [show ((z + jn : Nat) : Int) - 1074 - ((q + jn : Nat) : Int) = ex from by omega] at C16'
      rw [← hex] at C16
      obtain ⟨mi, hmi⟩ : ∃ mi : Int, mi = (m : Int) := ⟨_, rfl⟩
      obtain ⟨oi, hoi⟩ : ∃ oi : Int, oi = (o : Int) := ⟨_, rfl⟩
      obtain ⟨di, hdi⟩ : ∃ di : Int, di = ((denOf o ex : Nat) : Int) := ⟨_, rfl⟩
      obtain ⟨fi, hfi⟩ : ∃ fi : Int, fi = ((fillOf burst.toNat o m ex : Nat) : Int) := ⟨_, rfl⟩
      rw [← hmi, ← hoi, ← hdi, ← hfi] at C16 C16'
      have km : bits .and .u64 mi 1 = 1 := by
        rw [hmi]
        refine and1 m hm ?_
        have h1 := odd_V_lt t m z HD.out.2.2.1 hV hm
        omega
      have ko : bits .and .u64 oi 1 = 1 := by
        rw [hoi]
        refine and1 o ho ?_
        have h1 : o ≤ pn := by rw [hP]; exact Nat.le_mul_of_pos_right _ (Nat.two_pow_pos _)
        omega
      have kf : decide (1 ≤ fi) = true := by
        rw [hfi]
        have := fill_pos1 burst.toNat o m ex (by have := HD.out.1; omega) (by omega) (by omega)
        exact decide_eq_true (by omega)
      have H16 : Hid (∀ w', Below w.heap.size w w' → Calls Tryd.prog 16 #[.int .i64 burst, .float .f64 t, .int .i64 (pn : Int)] w' fun e' w'' => e' = .returned (.tuple #[.int .i64 burst, .int .u64 mi, .int .u64 oi, .int .i64 ex, .int .u64 di, .int .u64 fi]) ∧ Below w'.heap.size w' w'') := C16
      have H16' : Hid (∀ w', Below w.heap.size w w' → Calls Tryd.prog 16 #[.int .i64 burst, .float .f64 x, .int .i64 (p2 : Int)] w' fun e' w'' => e' = .returned (.tuple #[.int .i64 burst, .int .u64 mi, .int .u64 oi, .int .i64 ex, .int .u64 di, .int .u64 fi]) ∧ Below w'.heap.size w' w'') := C16'
      clear C16 C16' hmi hoi hdi hfi hex hp2d hp2o hp20 hple hV hV2 hP hm ho hper hb1 hb2 hp1 hp2 HX
      go_wp2_with fail
      refine (C18.out _).mono ?_
      rintro e w1 ⟨rfl, n2, rfl⟩
      have HB1 : Hid (Below w.heap.size w (w.drewN (n1 + n2))) := below_drewN (Below.refl _ _) _
      go_wp2_with fail
      refine (H16.out _ HB1.out).mono ?_
      rintro e w2 ⟨rfl, hb2⟩
      have HB2 : Hid (Below w.heap.size w w2) := HB1.out.trans (hb2.mono HB1.out.size)
      clear hb2
      go_wp2_with fail
      refine (H16'.out _ HB2.out).mono ?_
      rintro e w3 ⟨rfl, hb3⟩
      have HB3 : Hid (Below w.heap.size w w3) := HB2.out.trans (hb3.mono HB2.out.size)
      clear hb3
      go_wp2_with fail
      go_ret
      exact ⟨rfl, HB3.out⟩

end Go.Proofs.Qxb6616096aDoor
