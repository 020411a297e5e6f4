import Derived.Test.Qxb6616096aDoorMain6
namespace Go.Proofs.Qxb6616096aDoor
open Go.RowKit
set_option linter.unusedVariables false
set_option linter.unusedSimpArgs false
set_option maxRecDepth 100000
open Pl Flt Ieee

theorem and1_even (m : Nat) (h : m % 2 = 0) (hm : m < 2 ^ 64) : bits .and .u64 (m : Int) 1 = 0 := by
  have e := bits_and_u64_nat m 1 hm (by omega)
  rw [show m &&& 1 = m % 2 from Nat.and_one_is_mod m, h] at e
  exact e

/-- A number on its way to its odd part. -/
structure Halved (n m : Nat) (j : Nat) : Prop where
  eq : n = m * 2 ^ j
  pos : 0 < m
  low : m < 2 ^ 64
  few : j < 64

theorem Halved.step {n m j : Nat} (h : Halved n m j) (hn : n < 2 ^ 64) (he : m % 2 = 0) : Halved n (m / 2) (j + 1) := by
  obtain ⟨h1, h2, h3, h4⟩ := h
  have e : n = m / 2 * 2 ^ (j + 1) := by
    rw [h1, Nat.pow_succ, Nat.mul_comm (2 ^ j) 2, ← Nat.mul_assoc]
    congr 1
    omega
  refine ⟨e, by omega, by omega, ?_⟩
  apply Nat.lt_of_not_le
  intro hle
  have a1 : 2 ^ 64 ≤ 2 ^ (j + 1) := Nat.pow_le_pow_right (by omega) hle
  have a2 : 2 ^ (j + 1) ≤ m / 2 * 2 ^ (j + 1) := Nat.le_mul_of_pos_left _ (by omega)
  omega

set_option maxHeartbeats 2000000 in
theorem oddPart_c (n o k : Nat) (hn : n < 2 ^ 64) (h0 : 0 < n) (he : n = o * 2 ^ k) (ho : o % 2 = 1) (w : World) :
    Calls Tryd.prog 27 #[.int .u64 (n : Int)] w fun e w' => e = .returned (.tuple #[.int .u64 (o : Int), .int .i64 (k : Int)]) ∧ w = w' := by
  have HN : Hid (n < 2 ^ 64) := hn
  have H0 : Hid (Halved n n 0) := ⟨by simp, h0, hn, by omega⟩
  have HO : Hid (n = o * 2 ^ k ∧ o % 2 = 1) := ⟨he, ho⟩
  clear hn h0 he ho
  go_enter Tryd.func27, Tryd.ntmps27
  go_wp2_with fail
  go_loop [0, 4] (fun x y => ∃ (m : Int) (mn j : Nat), x = .int .u64 m ∧ y = .int .i64 (j : Int) ∧ Hid (m = (mn : Int) ∧ Halved n mn j)) (fun x y => (intOf x).toNat)
  case atStart => exact ⟨(n : Int), n, 0, rfl, rfl, rfl, H0.out⟩
  case round =>
    obtain ⟨m, mn, j, rfl, rfl, HM⟩ := hrel
    by_cases hm : mn % 2 = 0
    · have k1 : bits .and .u64 m 1 = 0 := by rw [HM.out.1]; exact and1_even mn hm HM.out.2.low
      obtain ⟨m2, hm2⟩ : ∃ m2 : Int, m / 2 = m2 := ⟨_, rfl⟩
      have HM2 : Hid (m2 = ((mn / 2 : Nat) : Int) ∧ Halved n (mn / 2) (j + 1) ∧ m2.toNat < m.toNat) := by
        refine ⟨?_, HM.out.2.step HN.out hm, ?_⟩
        · rw [← hm2, HM.out.1]; omega
        · have := HM.out.2.pos
          rw [← hm2, HM.out.1]; omega
      have hj : j < 64 := HM.out.2.few
      clear HM
      go_wp2_with fail
      go_round
      case rel => exact ⟨m2, mn / 2, j + 1, rfl, by go_num, HM2.out.1, HM2.out.2.1⟩
      case measure => exact HM2.out.2.2
    · have hodd : mn % 2 = 1 := by omega
      have k1 : bits .and .u64 m 1 = 1 := by rw [HM.out.1]; exact and1 mn hodd HM.out.2.low
      obtain ⟨e1, e2⟩ := Pl.odd_unique (HM.out.2.eq.symm.trans HO.out.1) hodd HO.out.2
      have HE : Hid (m = (o : Int) ∧ (j : Int) = (k : Int)) := ⟨by rw [HM.out.1, e1], by rw [e2]⟩
      clear HM e1 e2
      go_wp2_with fail
      go_ret2
      refine ⟨?_, rfl⟩
      exact ret_2 HE.out.1 HE.out.2

end Go.Proofs.Qxb6616096aDoor
