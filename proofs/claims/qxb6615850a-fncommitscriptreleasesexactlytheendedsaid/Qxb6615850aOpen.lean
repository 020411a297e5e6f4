import Derived.Test.Qxb6615850aMain
import Derived.ProofKit
import Derived.OpenShut
import Derived.ShutString
import Derived.ChangeOld
import Derived.Below
import Derived.Deep.Matrix
namespace Go.Proofs.Qxb6615850a
open Go.ChangeShapes Go.WideShapes Go.ChangeAt Go.RowKit
set_option linter.unusedVariables false

theorem own : ownKnob Try.prog.godebug = Option.none := by kernel_rfl
theorem laidOut : laidOutB Try.prog = true := by kernel_rfl

theorem add_none (b o i : Nat) : (⟨b, o, Option.none⟩ : Addr).add i = ⟨b, o + i, Option.none⟩ := by
  unfold Addr.add
  split <;> simp_all

/-- The cells of a row that came in. -/
theorem row_cells {W : World} {x : Addr} {n : Nat} {f : Nat → Value} (hn : 0 < n) (h : ∀ i, i < n → W.cell? (x.add i) = some (f i)) : ∃ b o, x = ⟨b, o, Option.none⟩ ∧ b < W.heap.size ∧ ∀ i, i < n → W.cell? ⟨b, o + i, Option.none⟩ = some (f i) := by
  have h0 := h 0 hn
  have e0 : x.add 0 = x := by unfold Addr.add; simp
  rw [e0] at h0
  have hs := World.cell?_spot h0
  obtain ⟨b, o, s⟩ := x
  simp only at hs
  subst hs
  exact ⟨b, o, rfl, World.block_lt_of_cell? _ _ h0, fun i hi => by rw [← add_none]; exact h i hi⟩

theorem getD_take (zs : List Int) (n i : Nat) (hi : i < n) : (zs.take n).getD i 0 = zs.getD i 0 := by
  simp [List.getD_eq_getElem?_getD, hi]

set_option maxRecDepth 100000
section
variable {H : Type} {enc : TypeId × Value → H} {W : World} {base : Nat}

theorem open_row_ {v : Value} {d : DataW H} {ps : List MemPlace} (hv : Value.okWide Try.prog W .any base 22 v) (h : DataW.Trod enc Try.prog W 0 (fun _ => true) true 22 v d ps) : ∃ r : Row, v = .slice r.a r.len r.cap ∧ IsRow W r := by
  obtain ⟨a4, len4, cap4, rfl⟩ := okWide_slice Try.underlying22 hv
  obtain ⟨fuel, hf⟩ := h
  rcases open_ints Try.underlying22 Try.underlying3 (by kernel_rfl) hf with ⟨hcs, _⟩ | ⟨x, l, c, zs, hcs, _, hl, hm, hz, _, hcell, hwz⟩
  · simp [Value.cells] at hcs
    obtain ⟨rfl, rfl, rfl⟩ := hcs
    exact ⟨⟨Option.none, 0, 0, []⟩, rfl, ⟨rfl, by simp, fun h => by simp at h, by simp⟩⟩
  · simp [Value.cells] at hcs
    obtain ⟨rfl, rfl, rfl⟩ := hcs
    simp only [if_true] at hz
    refine ⟨⟨some x, len4, cap4, zs.take len4⟩, rfl, ⟨by simp; omega, by dsimp only; omega, fun h0 => ?_, fun z hz => hwz z (List.mem_of_mem_take hz)⟩⟩
    dsimp only at h0 ⊢
    obtain ⟨b, o, rfl, hb, hc⟩ := row_cells (n := len4) (f := fun i => .int .i64 (zs.getD i 0)) h0 (fun i hi => hcell i (by omega))
    exact ⟨b, o, rfl, hb, fun i hi => by rw [getD_take _ _ _ hi]; exact hc i hi⟩

theorem open_rows_ {v : Value} {d : DataW H} {ps : List MemPlace} (hv : Value.okWide Try.prog W .any base 23 v) (h : DataW.Trod enc Try.prog W 0 (fun _ => true) true 23 v d ps) : ∃ (a : Option Addr) (k c : Nat) (R : Nat → Row), v = .slice a k c ∧ IsRows W a k R := by
  obtain ⟨a4, len4, cap4, rfl⟩ := okWide_slice Try.underlying23 hv
  obtain ⟨fuel, hf⟩ := h
  rcases Deep.open_int_rows Try.underlying23 Try.underlying22 Try.underlying3 (by kernel_rfl) (by kernel_rfl) hf with ⟨hcs, _⟩ | ⟨x, l, c, A, L, C, Z, hcs, _, hl, hm, _, hr⟩
  · simp [Value.cells] at hcs
    obtain ⟨rfl, rfl, rfl⟩ := hcs
    exact ⟨Option.none, 0, 0, fun _ => ⟨Option.none, 0, 0, []⟩, rfl, ⟨by simp, fun h => by simp at h, fun i hi => by omega⟩⟩
  · simp [Value.cells] at hcs
    obtain ⟨rfl, rfl, rfl⟩ := hcs
    refine ⟨some x, len4, cap4, fun r => ⟨A r, L r, C r, (Z r).take (L r)⟩, rfl, ⟨by omega, fun h0 => ?_, fun r hrl => ?_⟩⟩
    · obtain ⟨b, o, rfl, hb, hc⟩ := row_cells (n := len4) (f := fun r => .slice (A r) (L r) (C r)) h0 (fun r hi => (hr r (by omega)).1)
      exact ⟨b, o, rfl, hb, hc⟩
    · obtain ⟨h1, h2, h3, h4, h5, h6, h7⟩ := hr r (by omega)
      refine ⟨by simp; omega, by dsimp only; omega, fun h0 => ?_, fun z hz => h5 z (List.mem_of_mem_take hz)⟩
      dsimp only at h0 ⊢
      cases hA : A r with
      | none => have := h6 hA; omega
      | some a' =>
        obtain ⟨b, o, rfl, hb, hc⟩ := row_cells (n := L r) (f := fun i => .int .i64 ((Z r).getD i 0)) h0 (fun i hi => (h7 a' hA).2 i (by omega))
        exact ⟨b, o, rfl, hb, fun i hi => by rw [getD_take _ _ _ hi]; exact hc i hi⟩
end

theorem int_bounds {x : Int} (h : (Lit.int .i64 x).wf = true) : -9223372036854775808 ≤ x ∧ x ≤ 9223372036854775807 := by
  have h2 : (decide (IntKind.i64.min ≤ x) && decide (x ≤ IntKind.i64.max)) = true := h
  rw [show IntKind.min .i64 = -9223372036854775808 from rfl, show IntKind.max .i64 = 9223372036854775807 from rfl] at h2
  simpa using h2

end Go.Proofs.Qxb6615850a
