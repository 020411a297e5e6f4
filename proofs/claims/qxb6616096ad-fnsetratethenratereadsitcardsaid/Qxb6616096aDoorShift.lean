import Derived.Test.Qxb6616096aDoorLib2
import Derived.Test.Qxb6616096aDoorShN
namespace Go.Proofs.Qxb6616096aDoor
open Go.RowKit
open Ieee Flt
set_option linter.unusedVariables false
set_option linter.unusedSimpArgs false
set_option maxRecDepth 100000

theorem wrap64 (n : Int) : IntKind.u64.wrap n = n % (2 ^ 64 : Int) := IntKind.wrap_u64 n
theorem cast_mulpow (h k : Nat) : IntKind.u64.wrap ((h : Int) * 2 ^ k) = ((h * 2 ^ k % 2 ^ 64 : Nat) : Int) := by
  rw [wrap64]; simp
theorem cast_divpow (h k : Nat) : (h : Int) / 2 ^ k = ((h / 2 ^ k : Nat) : Int) := by simp
theorem nat_64s (s : Nat) (hs : s < 2 ^ 64) : (IntKind.u64.wrap (64 - (s : Int))).toNat = (64 + 2 ^ 64 - s) % 2 ^ 64 := by
  rw [IntKind.wrap_u64]; omega
theorem nat_s64 (s : Nat) (hs : s < 2 ^ 64) : (IntKind.u64.wrap ((s : Int) - 64)).toNat = (s + 2 ^ 64 - 64) % 2 ^ 64 := by
  rw [IntKind.wrap_u64]; omega
theorem or_nat (a b : Nat) (ha : a < 2 ^ 64) (hb : b < 2 ^ 64) : bits .or .u64 (a : Int) (b : Int) = ((a ||| b : Nat) : Int) := bits_or_u64_nat a b ha hb

theorem lt_mod (x : Nat) : x % 2 ^ 64 < 2 ^ 64 := Nat.mod_lt _ (Nat.two_pow_pos 64)
theorem lt_div (x k : Nat) (h : x < 2 ^ 64) : x / 2 ^ k < 2 ^ 64 := Nat.lt_of_le_of_lt (Nat.div_le_self _ _) h

theorem shl_hi_int (h l s : Nat) (hh : h < 2 ^ 64) (hl : l < 2 ^ 64) (hs : s < 2 ^ 64) :
    bits .or .u64 (bits .or .u64 (IntKind.u64.wrap ((h : Int) * 2 ^ min s 64)) ((l : Int) / 2 ^ min (IntKind.u64.wrap (64 - (s : Int))).toNat 64)) (IntKind.u64.wrap ((l : Int) * 2 ^ min (IntKind.u64.wrap ((s : Int) - 64)).toNat 64)) = (((h * 2 ^ 64 + l) * 2 ^ s / 2 ^ 64 % 2 ^ 64 : Nat) : Int) := by
  rw [nat_64s s hs, nat_s64 s hs, cast_mulpow, cast_mulpow, cast_divpow, or_nat _ _ (lt_mod _) (lt_div _ _ hl), or_nat _ _ (Nat.or_lt_two_pow (lt_mod _) (lt_div _ _ hl)) (lt_mod _), Pl.shl_hi h l s hh hl hs]

theorem shl_lo_int (h l s : Nat) : IntKind.u64.wrap ((l : Int) * 2 ^ min s 64) = (((h * 2 ^ 64 + l) * 2 ^ s % 2 ^ 64 : Nat) : Int) := by
  rw [cast_mulpow, Pl.shl_lo h l s]

theorem shr_lo_int (h l s : Nat) (hh : h < 2 ^ 64) (hl : l < 2 ^ 64) (hs : s < 2 ^ 64) :
    bits .or .u64 (bits .or .u64 ((l : Int) / 2 ^ min s 64) (IntKind.u64.wrap ((h : Int) * 2 ^ min (IntKind.u64.wrap (64 - (s : Int))).toNat 64))) ((h : Int) / 2 ^ min (IntKind.u64.wrap ((s : Int) - 64)).toNat 64) = (((h * 2 ^ 64 + l) / 2 ^ s % 2 ^ 64 : Nat) : Int) := by
  rw [nat_64s s hs, nat_s64 s hs, cast_mulpow, cast_divpow, cast_divpow, or_nat _ _ (lt_div _ _ hl) (lt_mod _), or_nat _ _ (Nat.or_lt_two_pow (lt_div _ _ hl) (lt_mod _)) (lt_div _ _ hh), Pl.shr_lo h l s hh hl hs]

theorem shr_hi_int (h l s : Nat) (hh : h < 2 ^ 64) (hl : l < 2 ^ 64) : (h : Int) / 2 ^ min s 64 = (((h * 2 ^ 64 + l) / 2 ^ s / 2 ^ 64 : Nat) : Int) := by
  rw [cast_divpow, Pl.shr_hi h l s hh hl]

theorem ret_2 {k1 k2 : IntKind} {a b c d : Int} (h1 : a = c) (h2 : b = d) : Ending.returned (.tuple #[.int k1 a, .int k2 b]) = .returned (.tuple #[.int k1 c, .int k2 d]) := by rw [h1, h2]

set_option maxHeartbeats 2000000 in
theorem shl128_c (h l s a b : Nat) (hh : h < 2 ^ 64) (hl : l < 2 ^ 64) (hs : s < 2 ^ 64) (ha : a = (h * 2 ^ 64 + l) * 2 ^ s / 2 ^ 64 % 2 ^ 64) (hb : b = (h * 2 ^ 64 + l) * 2 ^ s % 2 ^ 64) (w : World) :
    Calls Tryd.prog 46 #[.int .u64 h, .int .u64 l, .int .u64 s] w fun e w' => e = .returned (.tuple #[.int .u64 a, .int .u64 b]) ∧ w = w' := by
  have e1 := shl_hi_int h l s hh hl hs
  have e2 := shl_lo_int h l s
  rw [← ha] at e1
  rw [← hb] at e2
  clear ha hb hh hl hs
  go_enter Tryd.func46, Tryd.ntmps46
  go_wp2_with fail
  go_ret2
  refine ⟨?_, rfl⟩
  exact ret_2 (by first | exact e1 | rfl) (by first | exact e2 | rfl)

set_option maxHeartbeats 2000000 in
theorem shr128_c (h l s a b : Nat) (hh : h < 2 ^ 64) (hl : l < 2 ^ 64) (hs : s < 2 ^ 64) (ha : a = (h * 2 ^ 64 + l) / 2 ^ s / 2 ^ 64) (hb : b = (h * 2 ^ 64 + l) / 2 ^ s % 2 ^ 64) (w : World) :
    Calls Tryd.prog 45 #[.int .u64 h, .int .u64 l, .int .u64 s] w fun e w' => e = .returned (.tuple #[.int .u64 a, .int .u64 b]) ∧ w = w' := by
  have e1 := shr_hi_int h l s hh hl
  have e2 := shr_lo_int h l s hh hl hs
  rw [← ha] at e1
  rw [← hb] at e2
  clear ha hb hh hl hs
  go_enter Tryd.func45, Tryd.ntmps45
  go_wp2_with fail
  go_ret2
  refine ⟨?_, rfl⟩
  exact ret_2 (by first | exact e1 | rfl) (by first | exact e2 | rfl)

end Go.Proofs.Qxb6616096aDoor
