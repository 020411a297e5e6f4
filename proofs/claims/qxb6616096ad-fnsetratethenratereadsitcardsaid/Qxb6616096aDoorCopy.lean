import Derived.Test.Qxb6616096aDoorKeyTab
import Derived.Test.Qxb6616096aDoorShardW
import Derived.Laws.IdiomCopy
namespace Go.Proofs.Qxb6616096aDoor
open Go.RowKit
set_option linter.unusedVariables false
set_option linter.unusedSimpArgs false
set_option maxRecDepth 100000

theorem below_setCells {B : Nat} {a : World} (b : Nat) (hB : B ≤ b) : ∀ (vs : List Value) (o : Nat) (w : World), Below B a w → Below B a (w.setCells b o vs)
  | [], _, _, h => h
  | v :: r, o, w, h => below_setCells b hB r (o + 1) _ (h.setCell (p := ⟨b, o, Option.none⟩) hB v)

theorem size_setCells (b : Nat) : ∀ (vs : List Value) (o : Nat) (w : World), (w.setCells b o vs).heap.size = w.heap.size
  | [], _, _ => rfl
  | v :: r, o, w => by rw [World.setCells, size_setCells b r]; simp

/-- A slice copied into a new row. -/
theorem copy_step (T elem : TypeId) (z : Value) (hz : z.cells = #[z]) (bytes : Nat) (hu : Tryd.prog.underlying T = some (.slice elem)) (hi : (Tryd.prog.info? elem).map (fun i => (i.zero, i.size, i.bytes)) = some (some z, 1, bytes)) (hbytes : bytes ≤ 10000)
    (n c b o : Nat) (hn : n ≤ 65536) (v : Nat → Value) (hv : ∀ j, (v j).oneCell' = true) (w : World) (hsrc : ∀ j, j < n → w.cell? ⟨b, o + j, Option.none⟩ = some (v j)) :
    ∃ (ob : Obj) (W : World), (Instr.makeSlice T (.int .i64 n) (.int .i64 n)).run Tryd.prog w = .ok (.slice (some ⟨w.heap.size, 0, Option.none⟩) n n) (w.alloc ob) ∧
      (∀ ty, (Builtin.copy_ #[T, T] ty #[.slice (some ⟨w.heap.size, 0, Option.none⟩) n n, .slice (some ⟨b, o, Option.none⟩) n c]).run Tryd.prog (w.alloc ob) = .ok (goInt n) W) ∧
      Below w.heap.size w W ∧ (∀ j, j < n → W.cell? ⟨w.heap.size, j, Option.none⟩ = some (v j)) := by
  have hmk := run_mk T elem z 1 bytes hu hi n hbytes (by omega) w
  rw [hz, Nat.mul_one] at hmk
  have hl : ((List.range n).map v).length = n := by simp
  have hcell : ∀ k, k < n → (w.alloc (.cells (zeros #[z] n) elem)).cell? ⟨w.heap.size, k, Option.none⟩ = some z := fun k hk => by
    have hz' : (zeros #[z] n)[k]? = some z := by simp [zeros, madeCells, hk, Nat.mod_one]
    simp [go_sem, hz']
  refine ⟨_, (w.alloc (.cells (zeros #[z] n) elem)).setCells w.heap.size 0 ((List.range n).map v), hmk, fun ty => ?_, below_setCells _ (Nat.le_refl _) _ _ _ ((Below.refl _ _).alloc (Nat.le_refl _) _), fun j hj => ?_⟩
  · have hs : (Tryd.prog.info? elem).map (·.size) = some 1 := by
      cases hq : Tryd.prog.info? elem with
      | none => rw [hq] at hi; cases hi
      | some i => rw [hq] at hi; simp at hi; simp [hi.2.1]
    have h := run_copy_cells (P := Tryd.prog) (w.alloc (.cells (zeros #[z] n) elem)) T T ty elem w.heap.size 0 n n ⟨b, o, Option.none⟩ n c ((List.range n).map v) hu hs (by rw [hl]; exact (Nat.min_self n).symm) ?_ ?_ ?_ ?_
    · rw [hl] at h; exact h
    · intro j x hx
      rw [List.getElem?_map] at hx
      by_cases hj : j < n
      · rw [List.getElem?_range hj] at hx
        have e : v j = x := by simpa using hx
        have hadd : (⟨b, o, Option.none⟩ : Addr).add j = ⟨b, o + j, Option.none⟩ := by unfold Addr.add; split <;> simp_all
        rw [hadd, ← e]
        exact cell_below ((Below.refl _ _).alloc (Nat.le_refl _) _) (hsrc j hj)
      · rw [List.getElem?_eq_none (by simpa using hj)] at hx; cases hx
    · intro j hj
      rw [hl] at hj
      rw [Nat.zero_add, hcell j hj]; rfl
    · intro j hj
      simp [go_sem]
    · intro x hx
      obtain ⟨j, _, rfl⟩ := List.mem_map.1 hx
      exact hv j
  · have h := World.cell?_setCells_in w.heap.size ((List.range n).map v) 0 (w.alloc (.cells (zeros #[z] n) elem)) (fun j hj => by rw [hl] at hj; rw [Nat.zero_add, hcell j hj]; rfl) j (by rw [hl]; exact hj)
    rw [Nat.zero_add] at h
    rw [h]; simp

end Go.Proofs.Qxb6616096aDoor
