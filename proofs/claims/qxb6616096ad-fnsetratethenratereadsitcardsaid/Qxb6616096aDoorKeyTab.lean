import Derived.Test.Qxb6616096aDoorSmall
import Derived.Laws.MakeOwn
namespace Go.Proofs.Qxb6616096aDoor
open Go.RowKit
set_option linter.unusedVariables false
set_option linter.unusedSimpArgs false
set_option maxRecDepth 100000
open Pl

def zeros (z : Array Value) (n : Nat) : Array Value := madeCells z n

theorem run_mk (t e : TypeId) (z : Value) (size bytes : Nat) (ht : Tryd.prog.underlying t = some (.slice e)) (hi : (Tryd.prog.info? e).map (fun i => (i.zero, i.size, i.bytes)) = some (some z, size, bytes))
    (n : Nat) (hb : bytes ≤ 10000) (hn : n ≤ 1000000) (w : World) :
    (Instr.makeSlice t (.int .i64 n) (.int .i64 n)).run Tryd.prog w = .ok (.slice (some ⟨w.heap.size, 0, Option.none⟩) n n) (w.alloc (.cells (zeros z.cells (n * size)) e)) := by
  obtain ⟨i, h1, h2, h3, h4⟩ := info_parts hi
  have hbn : bytes * n ≤ 10000 * 1000000 := Nat.mul_le_mul hb hn
  have := run_make w t e i z ht h1 h2 .i64 .i64 n n (by omega) (by omega) (by rw [h4]; omega) (by omega)
  rw [this, h3, Int.toNat_natCast]
  rfl


set_option maxHeartbeats 1000000 in
theorem newKeyTable_c (w : World) :
    Calls Tryd.prog 22 #[.bool true] w fun e w' => (∃ X : Nat, e = .returned (.agg #[.slice (some ⟨X, 0, Option.none⟩) 8 8, .slice Option.none 0 0, .slice Option.none 0 0, .slice Option.none 0 0, .bool true, .int .i64 0, .int .i64 (-9223372036854775808)])) ∧ Below w.heap.size w w' := by
  have hmk0 := fun w => run_mk 86 177 (.agg #[.int .u32 0, .int .u32 0]) 2 8 Tryd.underlying86 (by kernel_rfl) 8 (by decide) (by decide) w
  obtain ⟨o, hmk⟩ : ∃ o : Obj, ∀ w, (Instr.makeSlice 86 (.int .i64 8) (.int .i64 8)).run Tryd.prog w = .ok (.slice (some ⟨w.heap.size, 0, Option.none⟩) 8 8) (w.alloc o) := ⟨_, hmk0⟩
  clear hmk0
  go_enter Tryd.func22, Tryd.ntmps22
  go_wp2_with fail
  simp [bodyPost, results, Tryd.results22, go_sem]
  exact ((Below.refl _ _).alloc (Nat.le_refl _) _).alloc (by simp) _

end Go.Proofs.Qxb6616096aDoor
