import Derived.Test.Qxb6616096aDoorKeyed
namespace Go.Proofs.Qxb6616096aDoor
open Go.RowKit
set_option linter.unusedVariables false
set_option linter.unusedSimpArgs false
set_option maxRecDepth 100000
open Pl Flt Ieee

/-- A keyedLimit in its variable. -/
def KCells (wx : World) (B : Nat) (burst m o e d f : Int) : Prop :=
  wx.cell? ⟨B, 0, Option.none⟩ = some (.int .i64 burst) ∧ wx.cell? ⟨B, 1, Option.none⟩ = some (.int .u64 m) ∧ wx.cell? ⟨B, 2, Option.none⟩ = some (.int .u64 o) ∧
  wx.cell? ⟨B, 3, Option.none⟩ = some (.int .i64 e) ∧ wx.cell? ⟨B, 4, Option.none⟩ = some (.int .u64 d) ∧ wx.cell? ⟨B, 5, Option.none⟩ = some (.int .u64 f)

set_option maxHeartbeats 3000000 in
theorem zzkeyed_walk (t : Nat) (burst per m o e d f : Int) (w : World)
    (c20 : Hid (Calls Tryd.prog 20 #[.agg #[.int .i64 burst, .float .f64 t, .int .i64 per]] w fun e' w' => e' = .returned (.agg #[.int .i64 burst, .int .u64 m, .int .u64 o, .int .i64 e, .int .u64 d, .int .u64 f]) ∧ Below w.heap.size w w')) :
    Calls Tryd.prog 16 #[.int .i64 burst, .float .f64 t, .int .i64 per] w fun e' w' => e' = .returned (.tuple #[.int .i64 burst, .int .u64 m, .int .u64 o, .int .i64 e, .int .u64 d, .int .u64 f]) ∧ Below w.heap.size w w' := by
  go_enter Tryd.func16, Tryd.ntmps16
  go_upto_region 1 with fail
  go_cut [12] (fun s wx => ∃ B, s = .pointer (some ⟨B, 0, Option.none⟩) ∧ KCells wx B burst m o e d f ∧ Aside (Below w.heap.size w wx))
  case first =>
    go_wp2_with fail
    refine c20.out.mono ?_
    rintro e w1 ⟨rfl, hb⟩
    have HB1 : Hid (Below w.heap.size w w1) := hb
    have HZ : Hid (w.heap.size ≤ w1.heap.size) := hb.size
    clear hb
    go_wp2_with fail
    go_meet
    case rel =>
      refine ⟨w1.heap.size, rfl, ?_, ?_⟩
      · refine ⟨?_, ?_, ?_, ?_, ?_, ?_⟩ <;> simp [go_sem]
      · exact Below.alloc HB1.out HZ.out _
  case rest =>
    obtain ⟨B, rfl, ⟨k0, k1, k2, k3, k4, k5⟩, HB⟩ := hcut
    go_wp2_with fail
    go_quiet (fail)
    go_wp2_with fail
    simp [bodyPost, results, Tryd.results16, go_sem]
    exact below_drewN HB.out _

/-- ZZnewKeyedLimit of a positive finite rate. -/
theorem keyed_c (t : Nat) (burst per : Int) (m z o k : Nat) (h0 : 0 < t) (ht : t < 9218868437227405312) (hb1 : 0 ≤ burst) (hb2 : burst < 18446744073709551616) (hp1 : 0 < per) (hp2 : per < 9223372036854775808)
    (hV : V t = m * 2 ^ z) (hm : m % 2 = 1) (hP : per = ((o * 2 ^ k : Nat) : Int)) (ho : o % 2 = 1) (w : World) (hT : Tab w) :
    Calls Tryd.prog 16 #[.int .i64 burst, .float .f64 t, .int .i64 per] w fun e' w' =>
      e' = .returned (.tuple #[.int .i64 burst, .int .u64 (m : Int), .int .u64 (o : Int), .int .i64 ((z : Int) - 1074 - (k : Int)), .int .u64 ((denOf o ((z : Int) - 1074 - (k : Int)) : Nat) : Int), .int .u64 ((fillOf burst.toNat o m ((z : Int) - 1074 - (k : Int)) : Nat) : Int)]) ∧ Below w.heap.size w w' :=
  zzkeyed_walk t burst per _ _ _ _ _ w (keyed_walk t burst per _ _ _ _ _ w (fun w' hb => rate_c t burst per m z o k h0 ht hb1 hb2 hp1 hp2 hV hm hP ho w' (hT.below hb)))

#print axioms keyed_c

end Go.Proofs.Qxb6616096aDoor
