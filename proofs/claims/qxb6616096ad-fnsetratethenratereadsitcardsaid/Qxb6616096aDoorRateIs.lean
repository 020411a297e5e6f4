import Derived.Test.Qxb6616096aDoorLimOK
import Derived.Test.Qxb6616096aDoorMain6
import Derived.Test.Qxb6616096aDoorWithin
namespace Go.Proofs.Qxb6616096aDoor
open Go.RowKit
set_option linter.unusedVariables false
set_option linter.unusedSimpArgs false
set_option maxRecDepth 100000
open Pl Flt Ieee

theorem odd_V_z (t m z : Nat) (h0 : 0 < t) (ht : t < 9218868437227405312) (hV : V t = m * 2 ^ z) (hm : m % 2 = 1) : z < 2200 := by
  have hmg : 0 < mg t := mg_pos t h0
  have hmg' : mg t < 2 ^ 53 := by
    unfold mg; split
    · omega
    · have := Nat.mod_lt t (Nat.two_pow_pos 52); omega
  have hex : ex t < 2047 := by
    unfold ex; omega
  obtain ⟨m', z', e, hm'⟩ := odd_split (mg t) hmg
  have h1 : m * 2 ^ z = m' * 2 ^ (z' + ex t) := by
    rw [← hV, Nat.pow_add, ← Nat.mul_assoc, ← e]; rfl
  obtain ⟨_, h2⟩ := Pl.odd_unique h1 hm hm'
  have h3 : 2 ^ z' < 2 ^ 53 := by
    have : 1 * 2 ^ z' ≤ m' * 2 ^ z' := Nat.mul_le_mul_right _ (by omega)
    omega
  have h4 := (Nat.pow_lt_pow_iff_right (by decide : 1 < 2)).1 h3
  omega

/-- The rate of a limit in the domain. -/
theorem rate_ok {burst per : Int} {mn mx it : Nat} (h : LimOK burst mn mx it per) (hp : per ≤ 9223372036854775807) (t : Nat) (h1 : mn ≤ t) (h2 : t ≤ mx) :
    ∃ (m o : Nat) (e : Int) (d f : Nat), RateOK burst.toNat m o e d f ∧ ∀ w, Tab w → Calls Tryd.prog 23 #[.agg #[.int .i64 burst, .float .f64 t, .int .i64 per]] w fun e' w' =>
      e' = .returned (.agg #[.int .u64 (m : Int), .int .u64 (o : Int), .int .i64 e, .int .u64 (d : Int), .int .u64 (f : Int)]) ∧ Below w.heap.size w w' := by
  have a1 := h.m0; have a2 := h.mx1; have a3 := h.p; have a4 := h.b1; have a5 := h.b2
  obtain ⟨m, z, hV, hm⟩ := odd_split (V t) (V_pos (by omega))
  obtain ⟨pn, rfl⟩ := Int.eq_ofNat_of_zero_le (show 0 ≤ per by omega)
  obtain ⟨o, k, hP, ho⟩ := odd_split pn (by omega)
  have hz := odd_V_z t m z (by omega) (by omega) hV hm
  have hm1 := odd_V_lt t m z (by omega) hV hm
  have ho1 : o ≤ pn := by rw [hP]; exact Nat.le_mul_of_pos_right _ (Nat.two_pow_pos k)
  have hk : 2 ^ k < 2 ^ 63 := by
    have : 1 * 2 ^ k ≤ o * 2 ^ k := Nat.mul_le_mul_right _ (by omega)
    omega
  have hk' := (Nat.pow_lt_pow_iff_right (by decide : 1 < 2)).1 hk
  refine ⟨m, o, (z : Int) - 1074 - (k : Int), _, _, ⟨by omega, hm1, by omega, by omega, by omega, by omega, by omega, rfl, rfl⟩, fun w hT => ?_⟩
  exact rate_c t burst (pn : Int) m z o k (by omega) (by omega) (by omega) (by omega) (by omega) (by omega) hV hm (by rw [hP]) ho w hT

end Go.Proofs.Qxb6616096aDoor
