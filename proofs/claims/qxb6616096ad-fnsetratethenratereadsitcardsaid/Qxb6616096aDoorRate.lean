import Derived.Test.Qxb6616096aDoorFill2
import Derived.Deep.RegionHeld3
import Derived.BigRegion
import Derived.BigQuiet
import Derived.Deep.DeepCutAuto
import Derived.Below
namespace Go.Proofs.Qxb6616096aDoor
open Go.RowKit
set_option linter.unusedVariables false
set_option linter.unusedSimpArgs false
set_option maxRecDepth 100000
open Pl

set_option maxHeartbeats 3000000 in
theorem rate_walk (t fr lw : Nat) (burst per ex b P M E0 : Int) (a k s : Nat) (m o e1 e ne mx den fill : Int) (w : World)
    (c30 : Hid (∀ w, Calls Tryd.prog 30 #[.float .f64 t] w fun e w' => e = .returned (.tuple #[.float .f64 fr, .int .i64 ex]) ∧ w = w'))
    (c31 : Hid (∀ w, Calls Tryd.prog 31 #[.float .f64 fr, .int .i64 53] w fun e w' => e = .returned (.float .f64 lw) ∧ w = w'))
    (hcv : ∀ w, (convert 22 38 (.float .f64 lw)).run Tryd.prog w = .ok (.int .u64 M) w)
    (hP : IntKind.u64.wrap per = P) (hE0 : IntKind.i64.wrap (ex - 53) = E0)
    (c32a : Hid (∀ w', TabAt 1 Lib.deBruijn64tab w' → Calls Tryd.prog 32 #[.int .u64 M] w' fun e w'' => e = .returned (.int .i64 (a : Int)) ∧ w'' = w'))
    (c32b : Hid (∀ w', TabAt 1 Lib.deBruijn64tab w' → Calls Tryd.prog 32 #[.int .u64 P] w' fun e w'' => e = .returned (.int .i64 (k : Int)) ∧ w'' = w'))
    (hm : M / 2 ^ min a 64 = m) (ho : P / 2 ^ min k 64 = o) (he1 : IntKind.i64.wrap ((a : Int) - (k : Int)) = e1) (he : IntKind.i64.wrap (E0 + e1) = e)
    (hne : IntKind.i64.wrap (-e) = ne) (hs : max ne 0 = (s : Int)) (hmx : 18446744073709551615 / 2 ^ min s 64 = mx)
    (hden : (decide (o ≤ mx) = true ∧ IntKind.u64.wrap (o * 2 ^ min s 64) = den) ∨ (decide (o ≤ mx) = false ∧ den = 0)) (hb : IntKind.u64.wrap burst = b)
    (c33 : Hid (∀ w, Calls Tryd.prog 33 #[.agg #[.int .u64 m, .int .u64 o, .int .i64 e, .int .u64 den, .int .u64 0], .int .u64 b] w fun e' w' => e' = .returned (.int .u64 fill) ∧ ∃ n, w' = (w.alloc (.cells (rateCells m o e den 0) 54)).drewN n))
    (hT : Hid (∀ w', Below w.heap.size w w' → TabAt 1 Lib.deBruijn64tab w')) :
    Calls Tryd.prog 23 #[.agg #[.int .i64 burst, .float .f64 t, .int .i64 per]] w fun e' w' => e' = .returned (.agg #[.int .u64 m, .int .u64 o, .int .i64 e, .int .u64 den, .int .u64 fill]) ∧ Below w.heap.size w w' := by
  go_enter Tryd.func23, Tryd.ntmps23
  go_wp2_with fail
  refine (c30.out _).mono ?_
  rintro e w1 ⟨rfl, rfl⟩
  go_upto_region 2 with fail
  go_cut [5] (fun s5 wx => s5 = .pointer (some ⟨w.heap.size + 2, 0, Option.none⟩) ∧ ∃ n, wx = (((w.alloc (.cells #[.int .i64 burst, .float .f64 t, .int .i64 per] 59)).alloc (.cells #[.int .u64 0, .int .u64 0, .int .i64 0, .int .u64 0, .int .u64 0] 54)).alloc (.cells #[.int .u64 M, .int .u64 P, .int .i64 E0, .int .u64 0, .int .u64 0] 54)).drewN n)
  case first =>
    go_region_with (first | (refine (c31.out _).mono ?_; rintro e w1 ⟨rfl, rfl⟩))
    all_goals (go_wp2_with fail; go_meet)
    all_goals exact ⟨rfl, _, rfl⟩
  case rest =>
    obtain ⟨rfl, n, hwc⟩ := hcut
    have HC : Hid (wc = (((w.alloc (.cells #[.int .i64 burst, .float .f64 t, .int .i64 per] 59)).alloc (.cells #[.int .u64 0, .int .u64 0, .int .i64 0, .int .u64 0, .int .u64 0] 54)).alloc (.cells #[.int .u64 M, .int .u64 P, .int .i64 E0, .int .u64 0, .int .u64 0] 54)).drewN n) := hwc
    have hb : Below w.heap.size w wc := by
      rw [hwc]; exact below_drewN ((((Below.refl _ _).alloc (Nat.le_refl _) _).alloc (by simp) _).alloc (by simp; omega) _) n
    have HT : Hid (∀ k, TabAt 1 Lib.deBruijn64tab (wc.drewN k)) := fun k => hT.out _ (below_drewN hb k)
    have k1 : wc.cell? ⟨w.heap.size + 2, 0, Option.none⟩ = some (.int .u64 M) := by rw [hwc]; simp [go_sem]
    have k2 : wc.cell? ⟨w.heap.size + 2, 1, Option.none⟩ = some (.int .u64 P) := by rw [hwc]; simp [go_sem]
    clear hwc hb
    go_upto_region 3 with fail
    go_cut [6, 7] (fun s6 s7 wx => s6 = .int .i64 (a : Int) ∧ s7 = .int .i64 (k : Int) ∧ ∃ n, wx = wc.drewN n)
    case first =>
      go_quiet (first | (go_at_call_of 32 (Value.int IntKind.u64 M); refine Calls.quiet_of_same (c32a.out _ (HT.out _))) | (go_at_call_of 32 (Value.int IntKind.u64 P); refine Calls.quiet_of_same (c32b.out _ (HT.out _))))
      go_wp2_with fail
      go_meet
      case rel => exact ⟨rfl, rfl, _, rfl⟩
    case rest =>
      obtain ⟨rfl, rfl, n2, rfl⟩ := hcut
      obtain rfl := HC.out
      clear HC HT k1 k2
      rcases hden with ⟨kd, hden⟩ | ⟨kd, hden⟩
      · go_wp2_with fail
        go_quiet (fail)
        go_wp2_with fail
        refine (c33.out _).mono ?_
        rintro e w1 ⟨rfl, n3, rfl⟩
        go_wp2_with fail
        simp [bodyPost, results, Tryd.results23, go_sem]
        exact (Below.setCell (Below.setCell (Below.setCell (Below.setCell (Below.setCell (Below.setCell (below_drewN (Below.alloc (Below.setCell (below_drewN (Below.setCell (Below.setCell (Below.setCell (below_drewN (Below.alloc (Below.alloc (Below.alloc (Below.refl _ _) (Nat.le_refl _) _) (by simp) _) (by simp; omega) _) _) (Nat.le_add_right _ _) _) (Nat.le_add_right _ _) _) (Nat.le_add_right _ _) _) _) (Nat.le_add_right _ _) _) (by simp; omega) _) _) (Nat.le_add_right _ _) _) (Nat.le_add_right _ _) _) (Nat.le_add_right _ _) _) (Nat.le_add_right _ _) _) (Nat.le_add_right _ _) _) (Nat.le_add_right _ _) _)
      · subst hden
        go_wp2_with fail
        go_quiet (fail)
        go_wp2_with fail
        refine (c33.out _).mono ?_
        rintro e w1 ⟨rfl, n3, rfl⟩
        go_wp2_with fail
        simp [bodyPost, results, Tryd.results23, go_sem]
        exact (Below.setCell (Below.setCell (Below.setCell (Below.setCell (Below.setCell (Below.setCell (below_drewN (Below.alloc (below_drewN (Below.setCell (Below.setCell (Below.setCell (below_drewN (Below.alloc (Below.alloc (Below.alloc (Below.refl _ _) (Nat.le_refl _) _) (by simp) _) (by simp; omega) _) _) (Nat.le_add_right _ _) _) (Nat.le_add_right _ _) _) (Nat.le_add_right _ _) _) _) (by simp; omega) _) _) (Nat.le_add_right _ _) _) (Nat.le_add_right _ _) _) (Nat.le_add_right _ _) _) (Nat.le_add_right _ _) _) (Nat.le_add_right _ _) _) (Nat.le_add_right _ _) _)

end Go.Proofs.Qxb6616096aDoor
