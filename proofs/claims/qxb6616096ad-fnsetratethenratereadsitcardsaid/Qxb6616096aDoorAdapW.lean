import Derived.Test.Qxb6616096aDoorAt
namespace Go.Proofs.Qxb6616096aDoor
open Go.RowKit
set_option linter.unusedVariables false
set_option linter.unusedSimpArgs false
set_option maxRecDepth 100000

/-- The limit as a local variable. -/
structure HeldA (w : World) (burst : Int) (mn mx it ic dc : Nat) (per : Int) (wx : World) : Prop where
  c0 : wx.cell? ⟨w.heap.size, 0, Option.none⟩ = some (.int .i64 burst)
  c1 : wx.cell? ⟨w.heap.size, 1, Option.none⟩ = some (.float .f64 mn)
  c2 : wx.cell? ⟨w.heap.size, 2, Option.none⟩ = some (.float .f64 mx)
  c3 : wx.cell? ⟨w.heap.size, 3, Option.none⟩ = some (.float .f64 it)
  c4 : wx.cell? ⟨w.heap.size, 4, Option.none⟩ = some (.float .f64 ic)
  c5 : wx.cell? ⟨w.heap.size, 5, Option.none⟩ = some (.float .f64 dc)
  c6 : wx.cell? ⟨w.heap.size, 6, Option.none⟩ = some (.int .i64 per)
  low : Below w.heap.size w wx

theorem HeldA.below {w wx w' : World} {burst : Int} {mn mx it ic dc : Nat} {per : Int} (h : HeldA w burst mn mx it ic dc per wx) (hb : Below wx.heap.size wx w') : HeldA w burst mn mx it ic dc per w' := by
  have l0 := World.block_lt_of_cell? wx _ h.c0
  exact ⟨(hb.cell (p := ⟨w.heap.size, 0, Option.none⟩) l0).trans h.c0, (hb.cell (p := ⟨w.heap.size, 1, Option.none⟩) l0).trans h.c1, (hb.cell (p := ⟨w.heap.size, 2, Option.none⟩) l0).trans h.c2, (hb.cell (p := ⟨w.heap.size, 3, Option.none⟩) l0).trans h.c3,
    (hb.cell (p := ⟨w.heap.size, 4, Option.none⟩) l0).trans h.c4, (hb.cell (p := ⟨w.heap.size, 5, Option.none⟩) l0).trans h.c5, (hb.cell (p := ⟨w.heap.size, 6, Option.none⟩) l0).trans h.c6, h.low.trans (hb.mono h.low.size)⟩

theorem HeldA.drew {w wx : World} {burst : Int} {mn mx it ic dc : Nat} {per : Int} (h : HeldA w burst mn mx it ic dc per wx) : HeldA w burst mn mx it ic dc per wx.drew := ⟨h.c0, h.c1, h.c2, h.c3, h.c4, h.c5, h.c6, h.low.drew⟩

theorem heldA_new (w : World) (burst : Int) (mn mx it ic dc : Nat) (per : Int) : HeldA w burst mn mx it ic dc per (w.alloc (.cells #[.int .i64 burst, .float .f64 mn, .float .f64 mx, .float .f64 it, .float .f64 ic, .float .f64 dc, .int .i64 per] 51)) :=
  ⟨by simp [go_sem], by simp [go_sem], by simp [go_sem], by simp [go_sem], by simp [go_sem], by simp [go_sem], by simp [go_sem], (Below.refl _ _).alloc (Nat.le_refl _) _⟩

theorem HeldA.alloc {w wx : World} {burst : Int} {mn mx it ic dc : Nat} {per : Int} (h : HeldA w burst mn mx it ic dc per wx) (o : Obj) : HeldA w burst mn mx it ic dc per (wx.alloc o) := h.below ((Below.refl _ _).alloc (Nat.le_refl _) _)
theorem HeldA.one {w wx : World} {burst : Int} {mn mx it ic dc : Nat} {per : Int} (h : HeldA w burst mn mx it ic dc per wx) : (∀ o, (wx.alloc o).cell? ⟨w.heap.size, 0, Option.none⟩ = some (.int .i64 burst)) ∧
    (∀ o, (wx.alloc o).cell? ⟨w.heap.size, 1, Option.none⟩ = some (.float .f64 mn)) ∧
    (∀ o, (wx.alloc o).cell? ⟨w.heap.size, 2, Option.none⟩ = some (.float .f64 mx)) ∧
    (∀ o, (wx.alloc o).cell? ⟨w.heap.size, 3, Option.none⟩ = some (.float .f64 it)) ∧
    (∀ o, (wx.alloc o).cell? ⟨w.heap.size, 4, Option.none⟩ = some (.float .f64 ic)) ∧
    (∀ o, (wx.alloc o).cell? ⟨w.heap.size, 5, Option.none⟩ = some (.float .f64 dc)) ∧
    (∀ o, (wx.alloc o).cell? ⟨w.heap.size, 6, Option.none⟩ = some (.int .i64 per)) :=
  ⟨fun o => (h.alloc o).c0, fun o => (h.alloc o).c1, fun o => (h.alloc o).c2, fun o => (h.alloc o).c3, fun o => (h.alloc o).c4, fun o => (h.alloc o).c5, fun o => (h.alloc o).c6⟩
theorem HeldA.two {w wx : World} {burst : Int} {mn mx it ic dc : Nat} {per : Int} (h : HeldA w burst mn mx it ic dc per wx) : (∀ o o', ((wx.alloc o).alloc o').cell? ⟨w.heap.size, 0, Option.none⟩ = some (.int .i64 burst)) ∧
    (∀ o o', ((wx.alloc o).alloc o').cell? ⟨w.heap.size, 1, Option.none⟩ = some (.float .f64 mn)) ∧
    (∀ o o', ((wx.alloc o).alloc o').cell? ⟨w.heap.size, 2, Option.none⟩ = some (.float .f64 mx)) ∧
    (∀ o o', ((wx.alloc o).alloc o').cell? ⟨w.heap.size, 3, Option.none⟩ = some (.float .f64 it)) ∧
    (∀ o o', ((wx.alloc o).alloc o').cell? ⟨w.heap.size, 4, Option.none⟩ = some (.float .f64 ic)) ∧
    (∀ o o', ((wx.alloc o).alloc o').cell? ⟨w.heap.size, 5, Option.none⟩ = some (.float .f64 dc)) ∧
    (∀ o o', ((wx.alloc o).alloc o').cell? ⟨w.heap.size, 6, Option.none⟩ = some (.int .i64 per)) :=
  ⟨fun o o' => ((h.alloc o).alloc o').c0, fun o o' => ((h.alloc o).alloc o').c1, fun o o' => ((h.alloc o).alloc o').c2, fun o o' => ((h.alloc o).alloc o').c3, fun o o' => ((h.alloc o).alloc o').c4, fun o o' => ((h.alloc o).alloc o').c5, fun o o' => ((h.alloc o).alloc o').c6⟩

theorem new_ne1 (w : World) {B q : Nat} (v : Value) (h : w.cell? ⟨B, q, Option.none⟩ = some v) : w.heap.size + 1 ≠ B := by
  have := World.block_lt_of_cell? w _ h
  simp only at this
  omega

/-- An AdaptiveLimiter in memory. -/
structure Adap (A LB KB : Nat) (burst : Int) (mn mx it ic dc : Nat) (per m o e d f : Int) (w : World) : Prop where
  a0 : w.cell? ⟨A, 0, Option.none⟩ = some (.pointer (some ⟨LB, 0, Option.none⟩))
  a1 : w.cell? ⟨A, 1, Option.none⟩ = some (.int .i64 burst)
  a2 : w.cell? ⟨A, 2, Option.none⟩ = some (.float .f64 mn)
  a3 : w.cell? ⟨A, 3, Option.none⟩ = some (.float .f64 mx)
  a4 : w.cell? ⟨A, 4, Option.none⟩ = some (.float .f64 it)
  a5 : w.cell? ⟨A, 5, Option.none⟩ = some (.float .f64 ic)
  a6 : w.cell? ⟨A, 6, Option.none⟩ = some (.float .f64 dc)
  a7 : w.cell? ⟨A, 7, Option.none⟩ = some (.int .i64 per)
  l : w.cell? ⟨LB, 7, Option.none⟩ = some (.slice (some ⟨KB, 0, Option.none⟩) 1 1)
  k : w.cell? ⟨KB, 0, Option.none⟩ = some (.int .i64 burst)
  r : RateAt KB 1 m o e d f w

theorem Adap.below {A LB KB : Nat} {burst : Int} {mn mx it ic dc : Nat} {per m o e d f : Int} {w w' : World} (h : Adap A LB KB burst mn mx it ic dc per m o e d f w) (hb : Below w.heap.size w w') : Adap A LB KB burst mn mx it ic dc per m o e d f w' := by
  have l0 := World.block_lt_of_cell? w _ h.a0
  have l1 := World.block_lt_of_cell? w _ h.l
  have l2 := World.block_lt_of_cell? w _ h.k
  exact ⟨(hb.cell (p := ⟨A, 0, Option.none⟩) l0).trans h.a0, (hb.cell (p := ⟨A, 1, Option.none⟩) l0).trans h.a1, (hb.cell (p := ⟨A, 2, Option.none⟩) l0).trans h.a2, (hb.cell (p := ⟨A, 3, Option.none⟩) l0).trans h.a3, (hb.cell (p := ⟨A, 4, Option.none⟩) l0).trans h.a4,
    (hb.cell (p := ⟨A, 5, Option.none⟩) l0).trans h.a5, (hb.cell (p := ⟨A, 6, Option.none⟩) l0).trans h.a6, (hb.cell (p := ⟨A, 7, Option.none⟩) l0).trans h.a7, (hb.cell (p := ⟨LB, 7, Option.none⟩) l1).trans h.l, (hb.cell (p := ⟨KB, 0, Option.none⟩) l2).trans h.k, h.r.below hb⟩

theorem Adap.drew {A LB KB : Nat} {burst : Int} {mn mx it ic dc : Nat} {per m o e d f : Int} {w : World} (h : Adap A LB KB burst mn mx it ic dc per m o e d f w) : Adap A LB KB burst mn mx it ic dc per m o e d f w.drew :=
  ⟨h.a0, h.a1, h.a2, h.a3, h.a4, h.a5, h.a6, h.a7, h.l, h.k, h.r.drew⟩

def RetAdap (burst : Int) (mn mx it ic dc : Nat) (per m o e d f : Int) (e' : Ending) (w' : World) : Prop :=
  ∃ A LB KB, e' = .returned (.pointer (some ⟨A, 0, Option.none⟩)) ∧ Adap A LB KB burst mn mx it ic dc per m o e d f w'

def limCells : Nat → Array Value := fun B => #[.nilFunc, .int .u64 0, .int .i64 0, .pointer Option.none, .int .u32 0, .int .i32 0, .int .u32 0, .slice (some ⟨B, 0, Option.none⟩) 1 1, .int .u64 0, .slice Option.none 0 0, .pointer Option.none]

theorem adap_new {w w6 : World} {burst : Int} {mn mx it ic dc : Nat} {per : Int} (hS : Below w.heap.size w w6) (m o e d f : Int) :
    RetAdap burst mn mx it ic dc per m o e d f (.returned (.pointer (some ⟨w6.heap.size + 1 + 1, 0, Option.none⟩))) (((w6.alloc (.cells #[.int .i64 burst, .int .u64 m, .int .u64 o, .int .i64 e, .int .u64 d, .int .u64 f] 56)).alloc (.cells (limCells w6.heap.size) 83)).alloc (.cells #[.pointer (some ⟨w6.heap.size + 1, 0, Option.none⟩), .int .i64 burst, .float .f64 mn, .float .f64 mx, .float .f64 it, .float .f64 ic, .float .f64 dc, .int .i64 per] 85)) ∧
    Below w.heap.size w (((w6.alloc (.cells #[.int .i64 burst, .int .u64 m, .int .u64 o, .int .i64 e, .int .u64 d, .int .u64 f] 56)).alloc (.cells (limCells w6.heap.size) 83)).alloc (.cells #[.pointer (some ⟨w6.heap.size + 1, 0, Option.none⟩), .int .i64 burst, .float .f64 mn, .float .f64 mx, .float .f64 it, .float .f64 ic, .float .f64 dc, .int .i64 per] 85)) := by
  refine ⟨⟨w6.heap.size + 1 + 1, w6.heap.size + 1, w6.heap.size, rfl, ⟨by simp [go_sem], by simp [go_sem], by simp [go_sem], by simp [go_sem], by simp [go_sem], by simp [go_sem], by simp [go_sem], by simp [go_sem], by simp [go_sem, limCells], by simp [go_sem], ⟨by simp [go_sem], by simp [go_sem], by simp [go_sem], by simp [go_sem], by simp [go_sem]⟩⟩⟩, ?_⟩
  exact ((hS.alloc hS.size _).alloc (by have := hS.size; simp; omega) _).alloc (by have := hS.size; simp; omega) _

set_option maxHeartbeats 4000000 in
theorem adap_w (burst per : Int) (mn mx it ic dc : Nat) (m o e d f : Int) (w : World)
    (C21 : Hid (∀ w', HeldA w burst mn mx it ic dc per w' → Calls Tryd.prog 21 #[.agg #[.int .i64 burst, .float .f64 mn, .float .f64 mx, .float .f64 it, .float .f64 ic, .float .f64 dc, .int .i64 per], .float .f64 it] w' fun e w'' => e = .returned (.agg #[.int .i64 burst, .float .f64 it, .int .i64 per]) ∧ HeldA w burst mn mx it ic dc per w''))
    (C20 : Hid (∀ w', HeldA w burst mn mx it ic dc per w' → Calls Tryd.prog 20 #[.agg #[.int .i64 burst, .float .f64 it, .int .i64 per]] w' fun e' w'' => e' = .returned (.agg #[.int .i64 burst, .int .u64 m, .int .u64 o, .int .i64 e, .int .u64 d, .int .u64 f]) ∧ HeldA w burst mn mx it ic dc per w'')) :
    Calls Tryd.prog 9 #[.int .i64 burst, .float .f64 mn, .float .f64 mx, .float .f64 it, .float .f64 ic, .float .f64 dc, .int .i64 per] w fun e' w' => RetAdap burst mn mx it ic dc per m o e d f e' w' ∧ Below w.heap.size w w' := by
  have HN := heldA_new w burst mn mx it ic dc per
  have HN1 := HN.drew
  have s1 := fun (t : Nat) (w : World) (p : Addr) (m : Mode) => run_store Tryd.prog w p (.float .f64 t) m rfl
  go_enter Tryd.func9, Tryd.ntmps9
  go_wp2_with fail
  clear s1
  go_region_with (first | (go_at_call 21; refine (C21.out _ (by assumption)).mono ?_; rintro e w5 ⟨rfl, hS5⟩; have c0 := hS5.c0; have c1 := hS5.c1; have c2 := hS5.c2; have c3 := hS5.c3; have c4 := hS5.c4; have c5 := hS5.c5; have c6 := hS5.c6) | (go_at_call 20; refine (C20.out _ (by assumption)).mono ?_; rintro e w6 ⟨rfl, hS6⟩; have d0 := hS6.c0; have d1 := hS6.c1; have d2 := hS6.c2; have d3 := hS6.c3; have d4 := hS6.c4; have d5 := hS6.c5; have d6 := hS6.c6; obtain ⟨x0, x1, x2, x3, x4, x5, x6⟩ := hS6.one; obtain ⟨y0, y1, y2, y3, y4, y5, y6⟩ := hS6.two))
  all_goals go_wp2_with fail
  all_goals simp [bodyPost, results, Tryd.results9, go_sem]
  all_goals exact adap_new hS6.low m o e d f
end Go.Proofs.Qxb6616096aDoor
