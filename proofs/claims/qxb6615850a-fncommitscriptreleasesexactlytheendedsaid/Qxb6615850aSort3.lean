import Derived.Test.Qxb6615850aSort2
namespace Go.Proofs.Qxb6615850a
open Go.RowKit
set_option linter.unusedVariables false

set_option maxHeartbeats 1000000 in
theorem choosePivot (g E cap a l : Nat) (d : List Int) (rv : Value) (ok : Int → Prop) (Env : World → Prop) (C : Cmp g E rv ok Env) (W : World) (hr : Rowz W g d) (he : Env W) (hd : ∀ z ∈ d, ok z)
    (hl : 12 < l) (hb : a + l ≤ d.length) (hN : d.length ≤ 1000000) :
    Calls Try.prog 37 #[.slice (some ⟨g, 0, Option.none⟩) d.length cap, .int .i64 a, .int .i64 ((a + l : Nat) : Int), .func (.func 27) #[rv] #[]] W fun e w' =>
      RetPiv a (a + l) e ∧ Rowz w' g d ∧ Env w' ∧ W.grownBy w' Option.none := by
  have HD : Hid (∀ z ∈ d, ok z) := hd
  have hlow := C.low W he
  have hP : Piv g W.heap.size Env W d (W.alloc (.cells #[.int .i64 0] 3)) := by
    have hg : W.grownBy (W.alloc (.cells #[.int .i64 0] 3)) Option.none := World.grownBy_alloc W _ _
    refine ⟨hr.kept hg (by simp), C.keep _ _ g he (grownBy.wid _ hg) (Or.inl rfl), ⟨0, ?_⟩, ?_, by simp, grownBy.wid _ hg⟩
    · simp [go_sem]
    · simp [go_sem]
  have HP : Hid (Piv g W.heap.size Env W d (W.alloc (.cells #[.int .i64 0] 3))) := hP
  clear hd hP hr he
  by_cases h50 : 50 ≤ l
  · go_enter Try.func37, Try.ntmps37
    go_wp2_with fail
    rw [show ((a : Int) + ((a : Int) + (l : Int) - (a : Int)) / 4) = ((a + l / 4 : Nat) : Int) from by omega]
    refine (medianAdjacent g E W.heap.size cap (a + l / 4) d rv ok Env C _ ⟨HP.out.row, HP.out.env, HP.out.cell, HP.out.froz, HP.out.lt, World.grownBy.refl _ _⟩ hlow HD.out (by omega) (by omega) hN).mono ?_
    rintro e w1 ⟨⟨x1, rfl, hx1⟩, hp1⟩
    have HP1 : Hid (Piv g W.heap.size Env W d w1) := HP.out.trans hp1
    have hx1a : x1 < d.length := by omega
    have HX1 : Hid (a ≤ x1 ∧ x1 < a + l) := by show a ≤ x1 ∧ x1 < a + l; omega
    clear hx1 hp1
    go_wp2_with fail
    rw [show ((a : Int) + ((a : Int) + (l : Int) - (a : Int)) / 4 * 2) = ((a + l / 4 * 2 : Nat) : Int) from by omega]
    refine (medianAdjacent g E W.heap.size cap (a + l / 4 * 2) d rv ok Env C _ ⟨HP1.out.row, HP1.out.env, HP1.out.cell, HP1.out.froz, HP1.out.lt, World.grownBy.refl _ _⟩ hlow HD.out (by omega) (by omega) hN).mono ?_
    rintro e w2 ⟨⟨x2, rfl, hx2⟩, hp2⟩
    have HP2 : Hid (Piv g W.heap.size Env W d w2) := HP1.out.trans hp2
    have hx2a : x2 < d.length := by omega
    have HX2 : Hid (a ≤ x2 ∧ x2 < a + l) := by show a ≤ x2 ∧ x2 < a + l; omega
    clear hx2 hp2
    go_wp2_with fail
    rw [show ((a : Int) + ((a : Int) + (l : Int) - (a : Int)) / 4 * 3) = ((a + l / 4 * 3 : Nat) : Int) from by omega]
    refine (medianAdjacent g E W.heap.size cap (a + l / 4 * 3) d rv ok Env C _ ⟨HP2.out.row, HP2.out.env, HP2.out.cell, HP2.out.froz, HP2.out.lt, World.grownBy.refl _ _⟩ hlow HD.out (by omega) (by omega) hN).mono ?_
    rintro e w3 ⟨⟨x3, rfl, hx3⟩, hp3⟩
    have HP3 : Hid (Piv g W.heap.size Env W d w3) := HP2.out.trans hp3
    have hx3a : x3 < d.length := by omega
    have HX3 : Hid (a ≤ x3 ∧ x3 < a + l) := by show a ≤ x3 ∧ x3 < a + l; omega
    clear hx3 hp3
    go_wp2_with fail
    refine (median g E W.heap.size cap x1 x2 x3 d rv ok Env C _ ⟨HP3.out.row, HP3.out.env, HP3.out.cell, HP3.out.froz, HP3.out.lt, World.grownBy.refl _ _⟩ hlow HD.out hx1a hx2a hx3a hN).mono ?_
    rintro e w4 ⟨⟨x4, rfl, hx4⟩, hp4⟩
    have HPF : Hid (Piv g W.heap.size Env W d w4) := HP3.out.trans hp4
    have HX4 : Hid (a ≤ x4 ∧ x4 < a + l) := by
      have k1 := HX1.out; have k2 := HX2.out; have k3 := HX3.out
      show a ≤ x4 ∧ x4 < a + l; omega
    clear hx4 hp4
    obtain ⟨s, hs⟩ := HPF.out.cell
    go_wp2_with fail
    all_goals
      go_ret2
      refine ⟨⟨x4, _, rfl, ?_⟩, HPF.out.row, HPF.out.env, ⟨HPF.out.grown.os, HPF.out.grown.tape, HPF.out.grown.output, HPF.out.grown.size, fun k hk _ => HPF.out.grown.block k hk (by simp; omega)⟩⟩
      have := HX4.out
      omega
  · go_enter Try.func37, Try.ntmps37
    go_wp2_with fail
    rw [show ((a : Int) + ((a : Int) + (l : Int) - (a : Int)) / 4 * 2) = ((a + l / 4 * 2 : Nat) : Int) from by omega, show ((a : Int) + ((a : Int) + (l : Int) - (a : Int)) / 4 * 3) = ((a + l / 4 * 3 : Nat) : Int) from by omega, show ((a : Int) + ((a : Int) + (l : Int) - (a : Int)) / 4) = ((a + l / 4 : Nat) : Int) from by omega]
    refine (median g E W.heap.size cap (a + l / 4) (a + l / 4 * 2) (a + l / 4 * 3) d rv ok Env C _ ⟨HP.out.row, HP.out.env, HP.out.cell, HP.out.froz, HP.out.lt, World.grownBy.refl _ _⟩ hlow HD.out (by omega) (by omega) (by omega) hN).mono ?_
    rintro e w4 ⟨⟨x4, rfl, hx4⟩, hp4⟩
    have HPF : Hid (Piv g W.heap.size Env W d w4) := HP.out.trans hp4
    have HX4 : Hid (a ≤ x4 ∧ x4 < a + l) := by show a ≤ x4 ∧ x4 < a + l; omega
    clear hx4 hp4
    obtain ⟨s, hs⟩ := HPF.out.cell
    go_wp2_with fail
    all_goals
      go_ret2
      refine ⟨⟨x4, _, rfl, ?_⟩, HPF.out.row, HPF.out.env, ⟨HPF.out.grown.os, HPF.out.grown.tape, HPF.out.grown.output, HPF.out.grown.size, fun k hk _ => HPF.out.grown.block k hk (by simp; omega)⟩⟩
      have := HX4.out
      omega

end Go.Proofs.Qxb6615850a
