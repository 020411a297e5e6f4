import Derived.Test.Qxb6616096aDoorMain5
namespace Go.Proofs.Qxb6616096aDoor
open Go.RowKit
set_option linter.unusedVariables false
set_option linter.unusedSimpArgs false
set_option maxRecDepth 100000
open Pl Flt Ieee

theorem fill_false (b o m F : Nat) (e : Int) (hm : 0 < m) (hF : F = fillOf b o m e) (hF1 : 1 ≤ F) : decide (b * o * 2 ^ (-e).toNat ≤ (F - 1) * m * 2 ^ e.toNat) = false := by
  apply decide_eq_false
  intro h
  rw [Nat.mul_assoc (F - 1)] at h
  have h2 := (cdiv_le _ _ _ (Nat.mul_pos hm (Nat.two_pow_pos e.toNat))).2 h
  have h3 : F ≤ cdiv (b * o * 2 ^ (-e).toNat) (m * 2 ^ e.toNat) := by rw [hF]; exact Nat.min_le_left _ _
  omega

theorem fill_true (b o m F : Nat) (e : Int) (hm : 0 < m) (hF : F = fillOf b o m e) (hF1 : F ≠ 18446744073709551615) : decide (b * o * 2 ^ (-e).toNat ≤ F * m * 2 ^ e.toNat) = true := by
  apply decide_eq_true
  rw [Nat.mul_assoc F]
  apply (cdiv_le _ _ _ (Nat.mul_pos hm (Nat.two_pow_pos e.toNat))).1
  unfold fillOf at hF
  omega

theorem limitIs_c (t : Nat) (burst per : Int) (m z o k : Nat) (hD : Dom burst t per) (hp2 : per < 9223372036854775808) (hV : V t = m * 2 ^ z) (hm : m % 2 = 1) (hP : per = ((o * 2 ^ k : Nat) : Int)) (ho : o % 2 = 1) (hk : k < 64) (hz : z < 2200) (w : World) :
    Calls Tryd.prog 17 #[.int .i64 burst, .float .f64 t, .int .i64 per, .int .u64 (m : Int), .int .u64 (o : Int), .int .i64 ((z : Int) - 1074 - (k : Int)), .int .u64 ((denOf o ((z : Int) - 1074 - (k : Int)) : Nat) : Int), .int .u64 ((fillOf burst.toNat o m ((z : Int) - 1074 - (k : Int)) : Nat) : Int)] w
      fun e' w' => e' = .returned (.bool true) ∧ w = w' := by
  obtain ⟨d1, d2, d3, d4, d5⟩ := hD
  obtain ⟨x, hx⟩ : ∃ x : Int, x = (z : Int) - 1074 - (k : Int) := ⟨_, rfl⟩
  obtain ⟨e, he⟩ : ∃ e : Int, e = (z : Int) - 1074 := ⟨_, rfl⟩
  obtain ⟨s, hs⟩ : ∃ s : Nat, s = (max (-x) 0).toNat := ⟨_, rfl⟩
  obtain ⟨b, hb⟩ : ∃ b : Nat, b = burst.toNat := ⟨_, rfl⟩
  obtain ⟨F, hF⟩ : ∃ F : Nat, F = fillOf b o m x := ⟨_, rfl⟩
  obtain ⟨P, hPd⟩ : ∃ P : Nat, P = o * 2 ^ k := ⟨_, rfl⟩
  rw [← hPd] at hP
  have hm53 := odd_V_lt t m z d3 hV hm
  have hole : o ≤ P := by rw [hPd]; exact Nat.le_mul_of_pos_right _ (Nat.two_pow_pos k)
  have hm0 : 0 < m := by omega
  have ho0 : 0 < o := by omega
  have hF1 : 1 ≤ F := by rw [hF]; exact fill_pos1 b o m x (by omega) ho0 hm0
  have hF2 : F ≤ 18446744073709551615 := by rw [hF]; exact Nat.min_le_right _ _
  rw [← hx, ← hb, ← hF]
  have c28 := shlC 0 o s (by omega) (by omega) (by omega)
  rw [Nat.zero_mul, Nat.zero_add] at c28
  have cF := fun (n : Nat) (hn : n < 2 ^ 64) => fillsBy_c n m b o e (k : Int) x hn (by omega) (by omega) (by omega) (by omega) (by omega) (by omega)
  have H26 : Hid (∀ w, Calls Tryd.prog 26 #[.float .f64 t] w fun e' w' => e' = .returned (.tuple #[.int .u64 (m : Int), .int .i64 e]) ∧ w = w') := by
    rw [he]; exact fun w => oddMant_c t m z d3 d4 hV hm w
  have H27 : Hid (∀ w, Calls Tryd.prog 27 #[.int .u64 (P : Int)] w fun e' w' => e' = .returned (.tuple #[.int .u64 (o : Int), .int .i64 (k : Int)]) ∧ w = w') :=
    fun w => oddPart_c P o k (by omega) (by omega) hPd ho w
  have H29 : Hid (∀ w, Calls Tryd.prog 29 #[.int .u64 ((F - 1 : Nat) : Int), .int .u64 (m : Int), .int .i64 e, .int .u64 (b : Int), .int .u64 (o : Int), .int .i64 (k : Int)] w fun e' w' => e' = .returned (.bool false) ∧ w = w') := by
    intro w
    have := cF (F - 1) (by omega) w
    rw [fill_false b o m F x hm0 hF hF1] at this
    exact this
  have HM : ((F : Int) == 18446744073709551615) = true ∨ (((F : Int) == 18446744073709551615) = false ∧ Hid (∀ w, Calls Tryd.prog 29 #[.int .u64 (F : Int), .int .u64 (m : Int), .int .i64 e, .int .u64 (b : Int), .int .u64 (o : Int), .int .i64 (k : Int)] w fun e' w' => e' = .returned (.bool true) ∧ w = w')) := by
    by_cases hM : F = 18446744073709551615
    · exact .inl (by rw [beq_iff_eq]; omega)
    · refine .inr ⟨by rw [beq_eq_false_iff_ne]; omega, fun w => ?_⟩
      have := cF F (by omega) w
      rw [fill_true b o m F x hm0 hF hM] at this
      exact this
  have HS : (decide (e < (k : Int)) = true ∧ IntKind.i64.wrap ((k : Int) - e) = (s : Int)) ∨ (decide (e < (k : Int)) = false ∧ (s : Int) = 0) := by
    by_cases h : e < (k : Int)
    · exact .inl ⟨decide_eq_true h, by rw [IntKind.wrap_i64]; omega⟩
    · exact .inr ⟨decide_eq_false h, by omega⟩
  have hwP : IntKind.u64.wrap per = (P : Int) := by rw [IntKind.wrap_u64]; omega
  have hwx : IntKind.i64.wrap (e - (k : Int)) = x := by rw [IntKind.wrap_i64]; omega
  have hwF : IntKind.u64.wrap ((F : Int) - 1) = ((F - 1 : Nat) : Int) := by rw [IntKind.wrap_u64]; omega
  have hwb : IntKind.u64.wrap burst = (b : Int) := by rw [IntKind.wrap_u64]; omega
  have hF0 : ((F : Int) == 0) = false := by rw [beq_eq_false_iff_ne]; omega
  unfold denOf
  rw [← hs]
  rcases c28 with ⟨h1, c28⟩ | ⟨h1, c28⟩
  · refine limitIs_w t burst per _ _ x _ _ e (k : Int) (P : Int) (s : Int) _ _ _ (b : Int) true H26 hwP H27 hwx HS c28 ?_ hF0 hwF hwb H29 HM w
    obtain ⟨X, hX⟩ : ∃ X, X = o * 2 ^ s := ⟨_, rfl⟩
    rw [← hX]
    by_cases h2 : X < 18446744073709551616
    · rw [if_pos h2]
      exact .inl ⟨rfl, by omega, by omega⟩
    · rw [if_neg h2]
      exact .inr (.inl ⟨rfl, by rw [beq_eq_false_iff_ne]; omega, rfl⟩)
  · refine limitIs_w t burst per _ _ x _ _ e (k : Int) (P : Int) (s : Int) _ _ _ (b : Int) false H26 hwP H27 hwx HS c28 ?_ hF0 hwF hwb H29 HM w
    have h2 : ¬ o * 2 ^ s < 18446744073709551616 := by omega
    rw [if_neg h2]
    exact .inr (.inr ⟨rfl, rfl⟩)

set_option maxHeartbeats 4000000 in
theorem main5 (burst : Int) (t : Nat) (per : Int) (w : World) (ht : t < 2 ^ 64) (hb1 : -9223372036854775808 ≤ burst) (hb2 : burst ≤ 9223372036854775807) (hp1 : -9223372036854775808 ≤ per) (hp2 : per ≤ 9223372036854775807) (hT : Tab w) :
    Calls Tryd.prog 5 #[.int .i64 burst, .float .f64 t, .int .i64 per] w fun e w' => e = .returned (.bool true) ∧ Below w.heap.size w w' := by
  have HT : Hid (Tab w) := hT
  have C15 : Hid (∀ w, Calls Tryd.prog 15 #[.int .i64 burst, .float .f64 t, .int .i64 per] w fun e w' => RetDom burst t per e ∧ ∃ n, w' = w.drewN n) := limitDomain_c burst t per ht
  clear hT
  go_enter Tryd.func5, Tryd.ntmps5
  go_wp2_with fail
  refine (C15.out _).mono ?_
  rintro e w1 ⟨⟨x, rfl, hx⟩, n1, rfl⟩
  cases x
  case false =>
    go_wp2_with fail
    go_ret
    exact ⟨rfl, below_drewN (Below.refl _ _) _⟩
  have HD : Hid (Dom burst t per) := hx rfl
  clear hx
  obtain ⟨m, z, hV, hm⟩ := odd_split (V t) (V_pos HD.out.2.2.1)
  have hper := HD.out.2.2.2.2
  obtain ⟨pn, rfl⟩ := Int.eq_ofNat_of_zero_le (show 0 ≤ per by omega)
  obtain ⟨o, q, hP, ho⟩ := odd_split pn (by omega)
  have hq : q < 64 := by
    apply Nat.lt_of_not_le
    intro hle
    have a1 : 2 ^ 64 ≤ 2 ^ q := Nat.pow_le_pow_right (by omega) hle
    have a2 : 2 ^ q ≤ o * 2 ^ q := Nat.le_mul_of_pos_left _ (by omega)
    omega
  have hz : z < 2200 := by
    apply Nat.lt_of_not_le
    intro hle
    have hw := (V_lt_iff t (2047 * 2 ^ 52)).2 (by have := HD.out.2.2.2.1; omega)
    have hw2 := V_word 2047 (by omega)
    obtain ⟨N, hN⟩ : ∃ N, N = 2047 + 51 := ⟨_, rfl⟩
    rw [← hN] at hw2
    rw [hw2, hV] at hw
    have a1 : 2 ^ N ≤ 2 ^ z := Nat.pow_le_pow_right (by omega) (by omega)
    have a2 : 2 ^ z ≤ m * 2 ^ z := Nat.le_mul_of_pos_left _ (by omega)
    exact absurd hw (Nat.not_lt.2 (Nat.le_trans a1 a2))
  have HB1 : Hid (Below w.heap.size w (w.drewN n1)) := below_drewN (Below.refl _ _) _
  have C16 := keyed_c t burst (pn : Int) m z o q HD.out.2.2.1 HD.out.2.2.2.1 (by have := HD.out.1; omega) (by omega) (by omega) (by omega) hV hm (by rw [hP]) ho (w.drewN n1) (HT.out.below HB1.out)
  have C17 := limitIs_c t burst (pn : Int) m z o q HD.out (by omega) hV hm (by rw [hP]) ho hq hz
  obtain ⟨mi, hmi⟩ : ∃ mi : Int, mi = (m : Int) := ⟨_, rfl⟩
  obtain ⟨oi, hoi⟩ : ∃ oi : Int, oi = (o : Int) := ⟨_, rfl⟩
  obtain ⟨ex, hex⟩ : ∃ ex : Int, ex = (z : Int) - 1074 - (q : Int) := ⟨_, rfl⟩
  rw [← hex] at C16 C17
  obtain ⟨di, hdi⟩ : ∃ di : Int, di = ((denOf o ex : Nat) : Int) := ⟨_, rfl⟩
  obtain ⟨fi, hfi⟩ : ∃ fi : Int, fi = ((fillOf burst.toNat o m ex : Nat) : Int) := ⟨_, rfl⟩
  rw [← hmi, ← hoi, ← hdi, ← hfi] at C16 C17
  have H16 : Hid (Calls Tryd.prog 16 #[.int .i64 burst, .float .f64 t, .int .i64 (pn : Int)] (w.drewN n1) fun e' w'' => e' = .returned (.tuple #[.int .i64 burst, .int .u64 mi, .int .u64 oi, .int .i64 ex, .int .u64 di, .int .u64 fi]) ∧ Below (w.drewN n1).heap.size (w.drewN n1) w'') := C16
  have H17 : Hid (∀ w, Calls Tryd.prog 17 #[.int .i64 burst, .float .f64 t, .int .i64 (pn : Int), .int .u64 mi, .int .u64 oi, .int .i64 ex, .int .u64 di, .int .u64 fi] w fun e' w' => e' = .returned (.bool true) ∧ w = w') := C17
  clear C16 C17 hmi hoi hdi hfi hex hV hm hP ho hq hz hper hb1 hb2 hp1 hp2 ht
  go_wp2_with fail
  refine H16.out.mono ?_
  rintro e w2 ⟨rfl, hb⟩
  have HB2 : Hid (Below w.heap.size w w2) := HB1.out.trans (hb.mono HB1.out.size)
  clear hb
  go_wp2_with fail
  refine (H17.out _).mono ?_
  rintro e w3 ⟨rfl, rfl⟩
  go_wp2_with fail
  go_ret
  exact ⟨rfl, HB2.out⟩

#print axioms main5
end Go.Proofs.Qxb6616096aDoor
