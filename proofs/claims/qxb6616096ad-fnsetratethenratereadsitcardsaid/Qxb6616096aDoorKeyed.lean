import Derived.Test.Qxb6616096aDoorRate2
namespace Go.Proofs.Qxb6616096aDoor
open Go.RowKit
set_option linter.unusedVariables false
set_option linter.unusedSimpArgs false
set_option maxRecDepth 100000
open Pl Flt Ieee

theorem keyed_facts {t : Nat} {burst per : Int} {w w1 : World} (hb : Below (((w.alloc (.cells #[.int .i64 burst, .float .f64 t, .int .i64 per] 59)).alloc (.cells #[.int .i64 0, .int .u64 0, .int .u64 0, .int .i64 0, .int .u64 0, .int .u64 0] 56)).drew).heap.size (((w.alloc (.cells #[.int .i64 burst, .float .f64 t, .int .i64 per] 59)).alloc (.cells #[.int .i64 0, .int .u64 0, .int .u64 0, .int .i64 0, .int .u64 0, .int .u64 0] 56)).drew) w1) :
    w1.cell? ⟨w.heap.size, 0, Option.none⟩ = some (.int .i64 burst) ∧
    w1.cell? ⟨w.heap.size + 1, 0, Option.none⟩ = some (.int .i64 0) ∧
    w1.cell? ⟨w.heap.size + 1, 1, Option.none⟩ = some (.int .u64 0) ∧
    w1.cell? ⟨w.heap.size + 1, 2, Option.none⟩ = some (.int .u64 0) ∧
    w1.cell? ⟨w.heap.size + 1, 3, Option.none⟩ = some (.int .i64 0) ∧
    w1.cell? ⟨w.heap.size + 1, 4, Option.none⟩ = some (.int .u64 0) ∧
    w1.cell? ⟨w.heap.size + 1, 5, Option.none⟩ = some (.int .u64 0) ∧
    w1.frozen? ⟨w.heap.size + 1, 0, Option.none⟩ = false ∧
    w1.frozen? ⟨w.heap.size + 1, 1, Option.none⟩ = false ∧
    w1.frozen? ⟨w.heap.size + 1, 2, Option.none⟩ = false ∧
    w1.frozen? ⟨w.heap.size + 1, 3, Option.none⟩ = false ∧
    w1.frozen? ⟨w.heap.size + 1, 4, Option.none⟩ = false ∧
    w1.frozen? ⟨w.heap.size + 1, 5, Option.none⟩ = false :=
  ⟨by rw [hb.cell (by simp <;> omega)]; simp [go_sem], by rw [hb.cell (by simp <;> omega)]; simp [go_sem], by rw [hb.cell (by simp <;> omega)]; simp [go_sem], by rw [hb.cell (by simp <;> omega)]; simp [go_sem], by rw [hb.cell (by simp <;> omega)]; simp [go_sem], by rw [hb.cell (by simp <;> omega)]; simp [go_sem], by rw [hb.cell (by simp <;> omega)]; simp [go_sem], by rw [hb.frozen (by simp <;> omega)]; simp [go_sem], by rw [hb.frozen (by simp <;> omega)]; simp [go_sem], by rw [hb.frozen (by simp <;> omega)]; simp [go_sem], by rw [hb.frozen (by simp <;> omega)]; simp [go_sem], by rw [hb.frozen (by simp <;> omega)]; simp [go_sem], by rw [hb.frozen (by simp <;> omega)]; simp [go_sem]⟩

set_option maxHeartbeats 3000000 in
theorem keyed_walk (t : Nat) (burst per m o e d f : Int) (w : World)
    (c23 : Hid (∀ w', Below w.heap.size w w' → Calls Tryd.prog 23 #[.agg #[.int .i64 burst, .float .f64 t, .int .i64 per]] w' fun e' w'' => e' = .returned (.agg #[.int .u64 m, .int .u64 o, .int .i64 e, .int .u64 d, .int .u64 f]) ∧ Below w'.heap.size w' w'')) :
    Calls Tryd.prog 20 #[.agg #[.int .i64 burst, .float .f64 t, .int .i64 per]] w fun e' w' => e' = .returned (.agg #[.int .i64 burst, .int .u64 m, .int .u64 o, .int .i64 e, .int .u64 d, .int .u64 f]) ∧ Below w.heap.size w w' := by
  have HW : Hid (Below w.heap.size w (((w.alloc (.cells #[.int .i64 burst, .float .f64 t, .int .i64 per] 59)).alloc (.cells #[.int .i64 0, .int .u64 0, .int .u64 0, .int .i64 0, .int .u64 0, .int .u64 0] 56)).drew)) := (((Below.refl _ _).alloc (Nat.le_refl _) _).alloc (by simp) _).drew
  have HZ : Hid (w.heap.size ≤ (((w.alloc (.cells #[.int .i64 burst, .float .f64 t, .int .i64 per] 59)).alloc (.cells #[.int .i64 0, .int .u64 0, .int .u64 0, .int .i64 0, .int .u64 0, .int .u64 0] 56)).drew).heap.size) := by show _ ≤ _; simp; omega
  have C : Hid (Calls Tryd.prog 23 #[.agg #[.int .i64 burst, .float .f64 t, .int .i64 per]] (((w.alloc (.cells #[.int .i64 burst, .float .f64 t, .int .i64 per] 59)).alloc (.cells #[.int .i64 0, .int .u64 0, .int .u64 0, .int .i64 0, .int .u64 0, .int .u64 0] 56)).drew) fun e' w'' => e' = .returned (.agg #[.int .u64 m, .int .u64 o, .int .i64 e, .int .u64 d, .int .u64 f]) ∧ Below (((w.alloc (.cells #[.int .i64 burst, .float .f64 t, .int .i64 per] 59)).alloc (.cells #[.int .i64 0, .int .u64 0, .int .u64 0, .int .i64 0, .int .u64 0, .int .u64 0] 56)).drew).heap.size (((w.alloc (.cells #[.int .i64 burst, .float .f64 t, .int .i64 per] 59)).alloc (.cells #[.int .i64 0, .int .u64 0, .int .u64 0, .int .i64 0, .int .u64 0, .int .u64 0] 56)).drew) w'') := c23.out _ HW.out
  clear c23
  go_enter Tryd.func20, Tryd.ntmps20
  go_wp2_with fail
  go_region_with (first | (go_at_call 23; refine C.out.mono ?_; rintro e w1 ⟨rfl, hb⟩; obtain ⟨f0, g0, g1, g2, g3, g4, g5, h0, h1, h2, h3, h4, h5⟩ := keyed_facts hb; have HB1 : Hid (Below w.heap.size w w1) := HW.out.trans (hb.mono HZ.out); clear hb))
  all_goals go_wp2_with fail
  all_goals
    simp [bodyPost, results, Tryd.results20, go_sem, g0, g1, g2, g3, g4, g5]
    exact (Below.setCell (Below.setCell (Below.setCell (Below.setCell (Below.setCell (Below.setCell HB1.out (Nat.le_add_right _ _) _) (Nat.le_add_right _ _) _) (Nat.le_add_right _ _) _) (Nat.le_add_right _ _) _) (Nat.le_add_right _ _) _) (Nat.le_add_right _ _) _)


end Go.Proofs.Qxb6616096aDoor
