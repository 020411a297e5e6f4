import Derived.Test.Qxb6616096aDoorRate2
import Derived.ProofKit
import Derived.LaidMore
import Derived.OpenShut
import Derived.Stop.Joined
import Derived.Lib.LaidTab
import Derived.ShutString
import Derived.ChangeOld
namespace Go.Proofs.Qxb6616096aDoor
open Go.ChangeShapes Go.WideShapes Go.ChangeAt Go.RowKit
set_option maxRecDepth 100000

theorem own : ownKnob Tryd.prog.godebug = Option.none := by kernel_rfl
theorem laidOut : laidOutB Tryd.prog = true := by kernel_rfl

/-- The row's list. -/
def laidL : List (String × DataW Unit) := [("math/bits.deBruijn64tab", Rows.laid_math_bits_deBruijn64tab)]

theorem door_met (os : Os) (args : Array Value) : laidMetH Tryd.prog laidL ((World.doorLaid Tryd.prog 400 os).forCall (fun _ _ => 0) ⟨#[], args, []⟩).memory :=
  laidMetH_of_parts3 (fuel := 8) (laidMet_of_run' 8 (by kernel_rfl) (by kernel_rfl)) (by kernel_rfl) (by kernel_rfl)

theorem of_laid {W : World} (h : laidMetH Tryd.prog laidL W) : Tab W := by
  rw [MakeChecks.laidMetH_plain _ _ _ (by kernel_rfl)] at h
  obtain ⟨ps, ⟨g, t, cs, f, p, q, hg, ht, hv, hd, _, _⟩, _, _⟩ := h
  obtain rfl := Option.some.inj ((show Tryd.prog.globalNamed "math/bits.deBruijn64tab" = some 1 by kernel_rfl).symm.trans hg)
  obtain rfl := Option.some.inj ((show (Tryd.prog.globals[1]?).map (·.type) = some 125 by kernel_rfl).symm.trans ht)
  have e : (Rows.laid_math_bits_deBruijn64tab : DataW Unit) = Lib.tabData .u8 (Lib.deBruijn64tab.map Int.ofNat) := by kernel_rfl
  rw [e] at hd
  have hcs := Lib.cells_of_tab Tryd.underlying125 Tryd.underlying5 (by kernel_rfl) (by kernel_rfl) hd
  have hc : ∀ j, j < Lib.deBruijn64tab.length → W.cell? ⟨1, j, Option.none⟩ = some (.int .u8 ((Lib.deBruijn64tab.getD j 0 : Nat) : Int)) := by
    intro j hj
    rw [World.var?_cell hg hv j, ← Array.getElem?_toList, hcs]
    simp [hj, List.getD_eq_getElem?_getD]
  exact ⟨hc, World.block_lt_of_cell? W _ (hc 0 (by decide))⟩

end Go.Proofs.Qxb6616096aDoor
