import Derived.Test.Qxb6616096aDoorDivG
namespace Go.Proofs.Qxb6616096aDoor
open Go.RowKit
set_option linter.unusedVariables false
set_option linter.unusedSimpArgs false
set_option maxRecDepth 100000

theorem ret2u {a b c d : Int} (h1 : a = c) (h2 : b = d) : Ending.returned (.tuple #[.int .u64 a, .int .u64 b]) = .returned (.tuple #[.int .u64 c, .int .u64 d]) := by rw [h1, h2]

set_option maxHeartbeats 8000000 in
theorem div_core (un vn1 vn0 n1n n0n zn s : Nat) (h l y Y n1 n0 u v u1 u0 q r Q1 z q' r' Q0 P0 P1 P2 : Int)
    (hn1 : Hid (0 < n1n)) (hn1' : Hid (n1n < 4294967296)) (hn0 : Hid (n0n < 4294967296)) (hu1 : Hid (vn1 < 4294967296)) (hu0 : Hid (vn0 < 4294967296))
    (hu : Hid (un < n1n * 4294967296 + n0n)) (hz : Hid (zn < n1n * 4294967296 + n0n))
    (hu1e : Hid (u1 = (vn1 : Int))) (hu0e : Hid (u0 = (vn0 : Int))) (hn1e : Hid (n1 = (n1n : Int))) (hn0e : Hid (n0 = (n0n : Int)))
    (kh : (h == 0) = false) (ky : (y == 0) = false) (kl : (decide (y ≤ h)) = false) (kn : ¬ n1 = 0)
    (hs : IntKind.u64.wrap (s : Int) = (s : Int))
    (cz : Hid (∀ w, Calls Tryd.prog 59 #[.int .u64 y] w fun e w' => e = .returned (.int .i64 (s : Int)) ∧ w = w'))
    (e1 : IntKind.u64.wrap (y * 2 ^ min s 64) = Y) (e2 : Y / 4294967296 = n1) (e3 : bits .and .u64 Y 4294967295 = n0)
    (e4 : bits .or .u64 (IntKind.u64.wrap (h * 2 ^ min s 64)) (l / 2 ^ min (IntKind.u64.wrap (64 - (s : Int))).toNat 64) = u)
    (e5 : IntKind.u64.wrap (l * 2 ^ min s 64) = v) (e6 : v / 4294967296 = u1) (e7 : bits .and .u64 v 4294967295 = u0)
    (e8 : IntKind.u64.wrap (u.tdiv n1) = q) (e9 : IntKind.u64.wrap (u - IntKind.u64.wrap (q * n1)) = r)
    (g1 : Hid (GuessI un vn1 n1n n0n q r)) (hQ1 : Hid (Q1 = (((un * 4294967296 + vn1) / (n1n * 4294967296 + n0n) : Nat) : Int)))
    (f1 : IntKind.u64.wrap (IntKind.u64.wrap (IntKind.u64.wrap (u * 4294967296) + u1) - IntKind.u64.wrap (Q1 * Y)) = z)
    (f2 : IntKind.u64.wrap (z.tdiv n1) = q') (f3 : IntKind.u64.wrap (z - IntKind.u64.wrap (q' * n1)) = r')
    (g2 : Hid (GuessI zn vn0 n1n n0n q' r')) (hQ0 : Hid (Q0 = (((zn * 4294967296 + vn0) / (n1n * 4294967296 + n0n) : Nat) : Int)))
    (f4 : IntKind.u64.wrap (IntKind.u64.wrap (Q1 * 4294967296) + Q0) = P0)
    (f5 : IntKind.u64.wrap (IntKind.u64.wrap (IntKind.u64.wrap (z * 4294967296) + u0) - IntKind.u64.wrap (Q0 * Y)) = P1)
    (f6 : P1 / 2 ^ min s 64 = P2)
    (w : World) :
    Calls Tryd.prog 48 #[.int .u64 h, .int .u64 l, .int .u64 y] w fun e w' => e = .returned (.tuple #[.int .u64 P0, .int .u64 P2]) ∧ w = w' := by
  go_enter Tryd.func48, Tryd.ntmps48
  go_wp2_with fail
  refine (cz.out _).mono ?_
  rintro e w1 ⟨rfl, rfl⟩
  go_wp2_with fail
  go_loop [15, 16] (fun x y => ∃ q r : Int, x = .int .u64 q ∧ y = .int .u64 r ∧ Hid (GuessI un vn1 n1n n0n q r)) (fun x y => (intOf x).toNat)
  case atStart => exact ⟨q, r, rfl, rfl, g1⟩
  case round =>
    clear g1
    obtain ⟨qa, ra, rfl, rfl, hg⟩ := hrel
    obtain ⟨A, R, T, q2, r2, hw⟩ := guess_ways hg.out hu1e.out hn1e.out hn0e.out hn1.out hn1'.out hn0.out hu.out hu1.out Q1 hQ1.out
    clear hg
    rcases hw with ⟨t1, m1, m2, m3, t2, hqQ⟩ | ⟨t1, d1, d2, t3, hqQ⟩ | ⟨t1, m1, m2, m3, t2, d1, d2, t3, hqQ⟩ | ⟨t1, d1, d2, t3, hg⟩ | ⟨t1, m1, m2, m3, t2, d1, d2, t3, hg⟩
    · subst hqQ
      go_wp2_with fail
      go_loop [18, 16] (fun x y => ∃ q r : Int, x = .int .u64 q ∧ y = .int .u64 r ∧ Hid (GuessI zn vn0 n1n n0n q r)) (fun x y => (intOf x).toNat)
      case atStart => exact ⟨q', r', rfl, rfl, g2⟩
      case round =>
        obtain ⟨qb, rb, rfl, rfl, hg⟩ := hrel
        obtain ⟨A, R, T, q2, r2, hw⟩ := guess_ways hg.out hu0e.out hn1e.out hn0e.out hn1.out hn1'.out hn0.out hz.out hu0.out Q0 hQ0.out
        clear hg
        rcases hw with ⟨t1, m1, m2, m3, t2, hqQ⟩ | ⟨t1, d1, d2, t3, hqQ⟩ | ⟨t1, m1, m2, m3, t2, d1, d2, t3, hqQ⟩ | ⟨t1, d1, d2, t3, hg⟩ | ⟨t1, m1, m2, m3, t2, d1, d2, t3, hg⟩
        · subst hqQ
          go_wp2_with fail
          go_ret2
          exact ⟨rfl, rfl⟩
        · subst hqQ
          go_wp2_with fail
          go_ret2
          exact ⟨rfl, rfl⟩
        · subst hqQ
          go_wp2_with fail
          go_ret2
          exact ⟨rfl, rfl⟩
        · go_wp2_with fail
          go_round
          case rel => exact ⟨q2, r2, rfl, rfl, hg.out.1⟩
          case measure => exact hg.out.2
        · go_wp2_with fail
          go_round
          case rel => exact ⟨q2, r2, rfl, rfl, hg.out.1⟩
          case measure => exact hg.out.2
    · subst hqQ
      go_wp2_with fail
      go_loop [18, 16] (fun x y => ∃ q r : Int, x = .int .u64 q ∧ y = .int .u64 r ∧ Hid (GuessI zn vn0 n1n n0n q r)) (fun x y => (intOf x).toNat)
      case atStart => exact ⟨q', r', rfl, rfl, g2⟩
      case round =>
        obtain ⟨qb, rb, rfl, rfl, hg⟩ := hrel
        obtain ⟨A, R, T, q2, r2, hw⟩ := guess_ways hg.out hu0e.out hn1e.out hn0e.out hn1.out hn1'.out hn0.out hz.out hu0.out Q0 hQ0.out
        clear hg
        rcases hw with ⟨t1, m1, m2, m3, t2, hqQ⟩ | ⟨t1, d1, d2, t3, hqQ⟩ | ⟨t1, m1, m2, m3, t2, d1, d2, t3, hqQ⟩ | ⟨t1, d1, d2, t3, hg⟩ | ⟨t1, m1, m2, m3, t2, d1, d2, t3, hg⟩
        · subst hqQ
          go_wp2_with fail
          go_ret2
          exact ⟨rfl, rfl⟩
        · subst hqQ
          go_wp2_with fail
          go_ret2
          exact ⟨rfl, rfl⟩
        · subst hqQ
          go_wp2_with fail
          go_ret2
          exact ⟨rfl, rfl⟩
        · go_wp2_with fail
          go_round
          case rel => exact ⟨q2, r2, rfl, rfl, hg.out.1⟩
          case measure => exact hg.out.2
        · go_wp2_with fail
          go_round
          case rel => exact ⟨q2, r2, rfl, rfl, hg.out.1⟩
          case measure => exact hg.out.2
    · subst hqQ
      go_wp2_with fail
      go_loop [18, 16] (fun x y => ∃ q r : Int, x = .int .u64 q ∧ y = .int .u64 r ∧ Hid (GuessI zn vn0 n1n n0n q r)) (fun x y => (intOf x).toNat)
      case atStart => exact ⟨q', r', rfl, rfl, g2⟩
      case round =>
        obtain ⟨qb, rb, rfl, rfl, hg⟩ := hrel
        obtain ⟨A, R, T, q2, r2, hw⟩ := guess_ways hg.out hu0e.out hn1e.out hn0e.out hn1.out hn1'.out hn0.out hz.out hu0.out Q0 hQ0.out
        clear hg
        rcases hw with ⟨t1, m1, m2, m3, t2, hqQ⟩ | ⟨t1, d1, d2, t3, hqQ⟩ | ⟨t1, m1, m2, m3, t2, d1, d2, t3, hqQ⟩ | ⟨t1, d1, d2, t3, hg⟩ | ⟨t1, m1, m2, m3, t2, d1, d2, t3, hg⟩
        · subst hqQ
          go_wp2_with fail
          go_ret2
          exact ⟨rfl, rfl⟩
        · subst hqQ
          go_wp2_with fail
          go_ret2
          exact ⟨rfl, rfl⟩
        · subst hqQ
          go_wp2_with fail
          go_ret2
          exact ⟨rfl, rfl⟩
        · go_wp2_with fail
          go_round
          case rel => exact ⟨q2, r2, rfl, rfl, hg.out.1⟩
          case measure => exact hg.out.2
        · go_wp2_with fail
          go_round
          case rel => exact ⟨q2, r2, rfl, rfl, hg.out.1⟩
          case measure => exact hg.out.2
    · go_wp2_with fail
      go_round
      case rel => exact ⟨q2, r2, rfl, rfl, hg.out.1⟩
      case measure => exact hg.out.2
    · go_wp2_with fail
      go_round
      case rel => exact ⟨q2, r2, rfl, rfl, hg.out.1⟩
      case measure => exact hg.out.2

end Go.Proofs.Qxb6616096aDoor
