import Derived.Test.Qxb6616096aDoorWide2
import Derived.ChangeKeysEq
namespace Go.Proofs.Qxb6616096aDoor
open Go.RowKit
set_option maxRecDepth 100000
set_option linter.unusedSimpArgs false

theorem eqItem (xs ys : Array Value) (i : Nat) (is : List Nat) (p q : Int) (w : World) (h1 : (part 38 xs (i * 1)).run Tryd.prog w = .ok (.int .u64 p) w) (h2 : (part 38 ys (i * 1)).run Tryd.prog w = .ok (.int .u64 q) w) :
    (Op.eqItems 9999 38 1 xs ys (i :: is)).run Tryd.prog w = if p = q then (Op.eqItems 9999 38 1 xs ys is).run Tryd.prog w else .ok false w := by
  have h3 := run_equalIn_int (P := Tryd.prog) w 9998 38 .u64 .u64 p q Tryd.underlying38
  simp only [Op.eqItems, Sem.run_bind, h1, h2, Result.andThen_ok, h3]
  by_cases h : p = q
  · simp [h]
  · have : (p == q) = false := by simpa using h
    simp [h]

theorem eql3_run (x y z a b c : Int) (w : World) : (binOp .eql 139 (.agg #[.int .u64 x, .int .u64 y, .int .u64 z]) (.agg #[.int .u64 a, .int .u64 b, .int .u64 c])).run Tryd.prog w = .ok (.bool (decide (x = a ∧ y = b ∧ z = c))) w := by
  obtain ⟨i, hi⟩ : ∃ i, Tryd.prog.info? 38 = some i := Option.isSome_iff_exists.1 (by kernel_rfl)
  rw [run_eql_struct, run_equalIn_array w 9999 _ _ Tryd.underlying139 hi, show Tryd.prog.cellsOf 38 = 1 by kernel_rfl, show List.range 3 = [0, 1, 2] from rfl]
  rw [eqItem _ _ 0 _ x a w (by simp [part, go_sem, Tryd.isAgg38]) (by simp [part, go_sem, Tryd.isAgg38]), eqItem _ _ 1 _ y b w (by simp [part, go_sem, Tryd.isAgg38]) (by simp [part, go_sem, Tryd.isAgg38]),
    eqItem _ _ 2 _ z c w (by simp [part, go_sem, Tryd.isAgg38]) (by simp [part, go_sem, Tryd.isAgg38])]
  by_cases h1 : x = a
  · by_cases h2 : y = b
    · by_cases h3 : z = c
      · simp [h1, h2, h3, Op.eqItems]
      · simp [h1, h2, h3, Op.eqItems]
    · simp [h1, h2, Op.eqItems]
  · simp [h1, Op.eqItems]

theorem eql3 (x y z a b c : Int) : ∃ r : Bool, (∀ w, (binOp .eql 139 (.agg #[.int .u64 x, .int .u64 y, .int .u64 z]) (.agg #[.int .u64 a, .int .u64 b, .int .u64 c])).run Tryd.prog w = .ok (.bool r) w) ∧ Hid (x = a → y = b → z = c → r = true) :=
  ⟨_, fun w => eql3_run x y z a b c w, fun h1 h2 h3 => decide_eq_true ⟨h1, h2, h3⟩⟩
end Go.Proofs.Qxb6616096aDoor
