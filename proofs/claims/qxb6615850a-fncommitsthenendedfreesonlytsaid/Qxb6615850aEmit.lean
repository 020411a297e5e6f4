import Derived.Test.Qxb6615850aTab
import Derived.Test.Qxb6615850aSort11
namespace Go.Proofs.Qxb6615850a
open Go.RowKit
set_option linter.unusedVariables false

/-- A Release event, as a value. -/
def ev (z : Int) (s2 s3 : ByteArray) : Array Value :=
  #[.string ⟨#[114, 101, 108, 101, 97, 115, 101, 115]⟩, .int .i64 z, .string s2, .string s3, .string ⟨#[]⟩, .int .i64 0, .string ⟨#[]⟩, .slice Option.none 0 0, .slice Option.none 0 0, .int .i64 0, .int .i64 0, .int .i64 0]

set_option maxHeartbeats 400000 in
theorem yield_any (z : Int) (s2 s3 : ByteArray) (w : World) : Calls Try.prog 22 #[.agg (ev z s2 s3)] w fun e w' => e = .returned (.bool true) ∧ w.grownBy w' Option.none := by
  unfold ev
  go_enter Try.func22, Try.ntmps22
  go_wp2
  go_ret
  exact ⟨rfl, World.grownBy_alloc _ _ _⟩

set_option maxHeartbeats 400000 in
theorem note_any (y : Lay) (n k x : Nat) (w : World) (F : Fixed w y n k) (hx : x < k) (hk : k ≤ 65536) :
    Calls Try.prog 28 #[.pointer (some (ad y.M 0)), .int .i64 x] w fun e w' => e = .returned (.tuple #[]) ∧ w.grownBy w' Option.none := by
  have h1 := F.mI
  have h2 := F.ws x hx
  have h3 := F.wx x hx
  have h4 := F.wu x hx
  have h5 := F.ch x hx
  clear F
  go_enter Try.func28, Try.ntmps28
  go_wp2_with fail
  go_quiet (fail)
  go_wp2_with fail
  go_end0
  exact ⟨rfl, ⟨rfl, rfl, rfl, Nat.le_refl _, fun _ _ _ => rfl⟩⟩

set_option maxHeartbeats 1000000 in
theorem emit_any (y : Lay) (n k : Nat) (z : Int) (s2 s3 : ByteArray) (w : World) (F : Fixed w y n k) :
    Calls Try.prog 29 #[.pointer (some (ad y.S 0)), .agg (ev z s2 s3)] w fun e w' => e = .returned (.tuple #[]) ∧ w.grownBy w' Option.none := by
  have h1 := F.sY
  have h2 := F.sP
  have hlt := F.lt y.S (by simp [Lay.fix])
  have HY := fun w => yield_any z s2 s3 w
  unfold ev at *
  have HYY : Hid (∀ w, Calls Try.prog 22 #[.agg #[.string ⟨#[114, 101, 108, 101, 97, 115, 101, 115]⟩, .int .i64 z, .string s2, .string s3, .string ⟨#[]⟩, .int .i64 0, .string ⟨#[]⟩, .slice Option.none 0 0, .slice Option.none 0 0, .int .i64 0, .int .i64 0, .int .i64 0]] w fun e w' => e = .returned (.bool true) ∧ w.grownBy w' Option.none) := HY
  clear F HY
  go_enter Try.func29, Try.ntmps29
  go_wp2_with fail
  go_region_held3 (fun w' => w'.cell? (ad y.S 14) = some (.func (.func 22) #[] #[]) ∧ w'.cell? (ad y.S 15) = some (.bool false) ∧ w'.cell? (ad w.heap.size 0) = some (.string ⟨#[114, 101, 108, 101, 97, 115, 101, 115]⟩) ∧ w'.cell? (ad w.heap.size 1) = some (.int .i64 z) ∧ w'.cell? (ad w.heap.size 2) = some (.string s2) ∧ w'.cell? (ad w.heap.size 3) = some (.string s3) ∧ w'.cell? (ad w.heap.size 4) = some (.string ⟨#[]⟩) ∧ w'.cell? (ad w.heap.size 5) = some (.int .i64 0) ∧ w'.cell? (ad w.heap.size 6) = some (.string ⟨#[]⟩) ∧ w'.cell? (ad w.heap.size 7) = some (.slice Option.none 0 0) ∧ w'.cell? (ad w.heap.size 8) = some (.slice Option.none 0 0) ∧ w'.cell? (ad w.heap.size 9) = some (.int .i64 0) ∧ w'.cell? (ad w.heap.size 10) = some (.int .i64 0) ∧ w'.cell? (ad w.heap.size 11) = some (.int .i64 0))
    (first | go_keep | (go_split_ands; exact ⟨hg1.cell (by assumption) (by simp), hg1.cell (by assumption) (by simp), hg1.cell (by assumption) (by simp), hg1.cell (by assumption) (by simp), hg1.cell (by assumption) (by simp), hg1.cell (by assumption) (by simp), hg1.cell (by assumption) (by simp), hg1.cell (by assumption) (by simp), hg1.cell (by assumption) (by simp), hg1.cell (by assumption) (by simp), hg1.cell (by assumption) (by simp), hg1.cell (by assumption) (by simp), hg1.cell (by assumption) (by simp), hg1.cell (by assumption) (by simp)⟩))
    (first | (go_at_call 22; refine (HYY.out _).mono ?_; rintro e w1 ⟨rfl, hg1⟩))
  have hg2 : w.grownBy w1 Option.none := grownBy.tr (World.grownBy_alloc w _ _) ⟨hg1.os, hg1.tape, hg1.output, hg1.size, hg1.block⟩
  clear hg1
  go_wp2_with fail
  go_end0
  exact ⟨rfl, hg2⟩

end Go.Proofs.Qxb6615850a
