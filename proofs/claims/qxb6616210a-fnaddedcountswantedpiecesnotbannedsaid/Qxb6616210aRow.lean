import Derived.Test.Qxb6616210aUintn
namespace Go.Proofs.Qxb6616210a
open Go.RowKit
set_option linter.unusedVariables false
set_option linter.unusedSimpArgs false
set_option maxRecDepth 100000

theorem Upd.setNew {Q : Addr → Prop} {a w : World} (h : Upd Q a w) {p : Addr} (hp : a.heap.size ≤ p.block) (u : Value) : Upd Q a (w.setCell p u) :=
  ⟨by rw [World.size_setCell]; exact h.size, fun q h1 h2 => (World.cell?_setCell_other w p q u (fun e => by rw [← e] at h1; omega)).trans (h.cell q h1 h2),
   fun N h1 h2 => (h.low N h1 h2).setCell (Nat.le_trans h2 hp) u, fun k hk hq => (Below.heap_setCell w p u k (by omega)).trans (h.blk k hk hq)⟩

def upd {α : Type} (f : Nat → α) (i : Nat) (x : α) : Nat → α := fun j => if j = i then x else f j
theorem upd_same {α : Type} (f : Nat → α) (i : Nat) (x : α) : upd f i x i = x := if_pos rfl
theorem upd_other {α : Type} (f : Nat → α) (i : Nat) (x : α) {j : Nat} (h : j ≠ i) : upd f i x j = f j := if_neg h

/-- A row of n whole numbers of the call's own. -/
structure NRow (B n : Nat) (f : Nat → Nat) (w : World) : Prop where
  c : ∀ j, j < n → w.cell? ⟨B, j, Option.none⟩ = some (.int .i64 ((f j : Nat) : Int))
  z : ∀ j, w.frozen? ⟨B, j, Option.none⟩ = false
  lt : B < w.heap.size

section
variable {B n : Nat} {f : Nat → Nat} {w w' : World}
theorem NRow.below (h : NRow B n f w) (hb : Below w.heap.size w w') : NRow B n f w' :=
  ⟨fun j hj => cell_below hb (h.c j hj), fun j => (hb.frozen (p := ⟨B, j, Option.none⟩) h.lt).trans (h.z j), Nat.lt_of_lt_of_le h.lt hb.size⟩
theorem NRow.drew (h : NRow B n f w) : NRow B n f w.drew := ⟨h.c, h.z, h.lt⟩
theorem NRow.drewN (h : NRow B n f w) (k : Nat) : NRow B n f (w.drewN k) := h.below (below_drewN (Below.refl _ _) k)
theorem NRow.upd {Q : Addr → Prop} (h : NRow B n f w) (hu : Upd Q w w') (hq : ∀ p, Q p → p.block ≠ B) : NRow B n f w' :=
  ⟨fun j hj => (hu.cell _ h.lt (fun e => hq _ e rfl)).trans (h.c j hj), fun j => (hu.frozen (p := ⟨B, j, Option.none⟩) h.lt hq).trans (h.z j), Nat.lt_of_lt_of_le h.lt hu.size⟩
theorem NRow.other (h : NRow B n f w) {p : Addr} (hp : p.block ≠ B) (u : Value) : NRow B n f (w.setCell p u) :=
  ⟨fun j hj => (World.cell?_setCell_other _ _ _ _ (fun e => hp (by rw [e]))).trans (h.c j hj), fun j => by rw [World.frozen?_setCell]; exact h.z j, by rw [World.size_setCell]; exact h.lt⟩
theorem NRow.set (h : NRow B n f w) {i : Nat} (hi : i < n) (v : Nat) : NRow B n (Qxb6616210a.upd f i v) (w.setCell ⟨B, i, Option.none⟩ (.int .i64 (v : Int))) := by
  refine ⟨fun j hj => ?_, fun j => by rw [World.frozen?_setCell]; exact h.z j, by rw [World.size_setCell]; exact h.lt⟩
  by_cases hji : j = i
  · subst hji; rw [upd_same]; exact World.cell?_setCell_same _ _ _ (h.c j hj)
  · rw [upd_other _ _ _ hji]
    exact (World.cell?_setCell_other _ _ _ _ (fun e => hji (congrArg Addr.off e).symm)).trans (h.c j hj)
theorem NRow.congr (h : NRow B n f w) {g : Nat → Nat} (hg : ∀ j, j < n → g j = f j) : NRow B n g w := ⟨fun j hj => by rw [hg j hj]; exact h.c j hj, h.z, h.lt⟩
end

theorem run_mk (t e : TypeId) (z : Value) (size bytes : Nat) (ht : Try.prog.underlying t = some (.slice e)) (hi : (Try.prog.info? e).map (fun i => (i.zero, i.size, i.bytes)) = some (some z, size, bytes))
    (n : Nat) (hb : bytes ≤ 10000) (hn : n ≤ 2000000) (w : World) :
    (Instr.makeSlice t (.int .i64 n) (.int .i64 n)).run Try.prog w = .ok (.slice (some ⟨w.heap.size, 0, Option.none⟩) n n) (w.alloc (.cells (madeCells z.cells (n * size)) e)) := by
  obtain ⟨i, h1, h2, h3, h4⟩ := info_parts hi
  have hbn : bytes * n ≤ 10000 * 2000000 := Nat.mul_le_mul hb hn
  have := run_make w t e i z ht h1 h2 .i64 .i64 n n (by omega) (by omega) (by rw [h4]; omega) (by omega)
  rw [this, h3, Int.toNat_natCast]

/-- A made row of n zero elements of one cell. -/
def MadeOf (z : Value) (n : Nat) (ob : Obj) : Prop := ∃ t, ob = .cells (madeCells #[z] n) t
theorem MadeOf.cell {z : Value} {n : Nat} {ob : Obj} (h : MadeOf z n ob) (w : World) (k : Nat) (hk : k < n) : (w.alloc ob).cell? ⟨w.heap.size, k, Option.none⟩ = some z := by
  obtain ⟨t, rfl⟩ := h
  have hz : (madeCells #[z] n)[k]? = some z := by simp [madeCells, hk, Nat.mod_one]
  simp [go_sem, hz]
theorem MadeOf.froz {z : Value} {n : Nat} {ob : Obj} (h : MadeOf z n ob) (w : World) (k : Nat) : (w.alloc ob).frozen? ⟨w.heap.size, k, Option.none⟩ = false := by
  obtain ⟨t, rfl⟩ := h
  simp [go_sem]
theorem nrow_made {n : Nat} {ob : Obj} (h : MadeOf (.int .i64 0) n ob) (w : World) : NRow w.heap.size n (fun _ => 0) (w.alloc ob) :=
  ⟨fun j hj => h.cell w j hj, fun j => h.froz w j, by simp⟩

/-- make([]int, n). -/
theorem mk23 (n : Nat) (hn : n ≤ 2000000) : ∃ ob, MadeOf (.int .i64 0) n ob ∧ ∀ w, (Instr.makeSlice 23 (.int .i64 n) (.int .i64 n)).run Try.prog w = .ok (.slice (some ⟨w.heap.size, 0, Option.none⟩) n n) (w.alloc ob) := by
  have h := fun w => run_mk 23 3 (.int .i64 0) 1 8 Try.underlying23 (by kernel_rfl) n (by decide) hn w
  simp only [Nat.mul_one] at h
  exact ⟨_, ⟨3, rfl⟩, h⟩

/-- A permutation of the first n numbers. -/
structure IsPerm (n : Nat) (σ : Nat → Nat) : Prop where
  lt : ∀ j, j < n → σ j < n
  inj : ∀ i j, i < n → j < n → σ i = σ j → i = j
  sur : ∀ y, y < n → ∃ x, x < n ∧ σ x = y

def sw (σ : Nat → Nat) (i j : Nat) : Nat → Nat := upd (upd σ i (σ j)) j (σ i)

theorem IsPerm.sw {n : Nat} {σ : Nat → Nat} (h : IsPerm n σ) {i j : Nat} (hi : i < n) (hj : j < n) : IsPerm n (Qxb6616210a.sw σ i j) := by
  have key : ∀ k, Qxb6616210a.sw σ i j k = σ (if k = j then i else if k = i then j else k) := by
    intro k
    unfold Qxb6616210a.sw upd
    by_cases h1 : k = j
    · rw [if_pos h1, if_pos h1]
    · rw [if_neg h1, if_neg h1]
      by_cases h2 : k = i
      · rw [if_pos h2, if_pos h2]
      · rw [if_neg h2, if_neg h2]
  have hlt : ∀ k, k < n → (if k = j then i else if k = i then j else k) < n := by
    intro k hk; split
    · exact hi
    · split
      · exact hj
      · exact hk
  refine ⟨fun k hk => by rw [key]; exact h.lt _ (hlt k hk), fun a b ha hb hab => ?_, fun y hy => ?_⟩
  rotate_left
  · obtain ⟨x, hx, hxy⟩ := h.sur y hy
    refine ⟨_, hlt x hx, ?_⟩
    rw [key, ← hxy]
    congr 1
    by_cases a1 : x = j <;> by_cases a2 : x = i <;> by_cases a3 : i = j <;> simp_all
  rw [key, key] at hab
  have := h.inj _ _ (hlt a ha) (hlt b hb) hab
  by_cases a1 : a = j <;> by_cases a2 : a = i <;> by_cases b1 : b = j <;> by_cases b2 : b = i <;> simp_all

end Go.Proofs.Qxb6616210a
