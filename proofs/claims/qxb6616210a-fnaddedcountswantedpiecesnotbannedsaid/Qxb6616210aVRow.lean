import Derived.Test.Qxb6616210aRar
namespace Go.Proofs.Qxb6616210a
open Go.RowKit
set_option linter.unusedVariables false
set_option linter.unusedSimpArgs false
set_option maxRecDepth 100000

/-- A row of n values of the call's own. -/
structure VRow (B n : Nat) (f : Nat → Value) (w : World) : Prop where
  c : ∀ j, j < n → w.cell? ⟨B, j, Option.none⟩ = some (f j)
  z : ∀ j, w.frozen? ⟨B, j, Option.none⟩ = false
  lt : B < w.heap.size

section
variable {B n : Nat} {f : Nat → Value} {w w' : World}
theorem VRow.below (h : VRow B n f w) (hb : Below w.heap.size w w') : VRow B n f w' :=
  ⟨fun j hj => cell_below hb (h.c j hj), fun j => (hb.frozen (p := ⟨B, j, Option.none⟩) h.lt).trans (h.z j), Nat.lt_of_lt_of_le h.lt hb.size⟩
theorem VRow.drew (h : VRow B n f w) : VRow B n f w.drew := ⟨h.c, h.z, h.lt⟩
theorem VRow.upd {Q : Addr → Prop} (h : VRow B n f w) (hu : Upd Q w w') (hq : ∀ p, Q p → p.block ≠ B) : VRow B n f w' :=
  ⟨fun j hj => (hu.cell _ h.lt (fun e => hq _ e rfl)).trans (h.c j hj), fun j => (hu.frozen (p := ⟨B, j, Option.none⟩) h.lt hq).trans (h.z j), Nat.lt_of_lt_of_le h.lt hu.size⟩
theorem VRow.other (h : VRow B n f w) {p : Addr} (hp : p.block ≠ B) (u : Value) : VRow B n f (w.setCell p u) :=
  ⟨fun j hj => (World.cell?_setCell_other _ _ _ _ (fun e => hp (by rw [e]))).trans (h.c j hj), fun j => by rw [World.frozen?_setCell]; exact h.z j, by rw [World.size_setCell]; exact h.lt⟩
theorem VRow.set (h : VRow B n f w) {i : Nat} (hi : i < n) (v : Value) : VRow B n (Qxb6616210a.upd f i v) (w.setCell ⟨B, i, Option.none⟩ v) := by
  refine ⟨fun j hj => ?_, fun j => by rw [World.frozen?_setCell]; exact h.z j, by rw [World.size_setCell]; exact h.lt⟩
  by_cases hji : j = i
  · subst hji; rw [upd_same]; exact World.cell?_setCell_same _ _ _ (h.c j hj)
  · rw [upd_other _ _ _ hji]
    exact (World.cell?_setCell_other _ _ _ _ (fun e => hji (congrArg Addr.off e).symm)).trans (h.c j hj)
theorem VRow.congr (h : VRow B n f w) {g : Nat → Value} (hg : ∀ j, j < n → g j = f j) : VRow B n g w := ⟨fun j hj => by rw [hg j hj]; exact h.c j hj, h.z, h.lt⟩
theorem VRow.made {n : Nat} {z : Value} {ob : Obj} (h : MadeOf z n ob) (w : World) : VRow w.heap.size n (fun _ => z) (w.alloc ob) :=
  ⟨fun j hj => h.cell w j hj, fun j => h.froz w j, by simp⟩
end

theorem mk39 (n : Nat) (hn : n ≤ 2000000) : ∃ ob, MadeOf (.bool false) n ob ∧ ∀ w, (Instr.makeSlice 39 (.int .i64 n) (.int .i64 n)).run Try.prog w = .ok (.slice (some ⟨w.heap.size, 0, Option.none⟩) n n) (w.alloc ob) := by
  have h := fun w => run_mk 39 4 (.bool false) 1 1 Try.underlying39 (by kernel_rfl) n (by decide) hn w
  simp only [Nat.mul_one] at h
  exact ⟨_, ⟨4, rfl⟩, h⟩
theorem mk35 (n : Nat) (hn : n ≤ 2000000) : ∃ ob, MadeOf (.pointer Option.none) n ob ∧ ∀ w, (Instr.makeSlice 35 (.int .i64 n) (.int .i64 n)).run Try.prog w = .ok (.slice (some ⟨w.heap.size, 0, Option.none⟩) n n) (w.alloc ob) := by
  have h := fun w => run_mk 35 36 (.pointer Option.none) 1 8 Try.underlying35 (by kernel_rfl) n (by decide) hn w
  simp only [Nat.mul_one] at h
  exact ⟨_, ⟨36, rfl⟩, h⟩
theorem mk45 (n : Nat) (hn : n ≤ 2000000) : ∃ ob, MadeOf (.map Option.none) n ob ∧ ∀ w, (Instr.makeSlice 45 (.int .i64 n) (.int .i64 n)).run Try.prog w = .ok (.slice (some ⟨w.heap.size, 0, Option.none⟩) n n) (w.alloc ob) := by
  have h := fun w => run_mk 45 38 (.map Option.none) 1 8 Try.underlying45 (by kernel_rfl) n (by decide) hn w
  simp only [Nat.mul_one] at h
  exact ⟨_, ⟨38, rfl⟩, h⟩

/-- The greatest of the first k. -/
def mx (f : Nat → Nat) : Nat → Nat
  | 0 => 0
  | k + 1 => if mx f k < f k then f k else mx f k
theorem mx_ge (f : Nat → Nat) (k j : Nat) (h : j < k) : f j ≤ mx f k := by
  induction k with
  | zero => omega
  | succ k ih =>
    unfold mx
    by_cases e : j = k
    · subst e; split <;> omega
    · have := ih (by omega)
      split <;> omega
theorem mx_le (f : Nat → Nat) (k b : Nat) (h : ∀ j, j < k → f j ≤ b) : mx f k ≤ b := by
  induction k with
  | zero => exact Nat.zero_le _
  | succ k ih =>
    unfold mx
    have := ih (fun j hj => h j (by omega))
    have := h k (by omega)
    split <;> omega
theorem mx_len {n L : Nat} {order pos group start cnt : Nat → Nat} (h : Inv n L order pos group start) (hL : 3 ≤ L) (hc : ∀ j, j < n → group j = cnt j + 1) : L = mx cnt n + 3 := by
  have h1 : mx cnt n ≤ L - 3 := mx_le _ _ _ (fun j hj => by have := h.i.g j hj; have := hc j hj; omega)
  rcases h.t with e | ⟨j, hj, e⟩
  · omega
  · have := mx_ge cnt n j hj
    have := hc j hj
    omega

def cntEq (f : Nat → Nat) (g : Nat) : Nat → Nat
  | 0 => 0
  | n + 1 => cntEq f g n + if f n = g then 1 else 0
theorem cntLt_succ (f : Nat → Nat) (g n : Nat) : cntLt f (g + 1) n = cntLt f g n + cntEq f g n := by
  induction n with
  | zero => rfl
  | succ n ih =>
    unfold cntLt cntEq
    rw [ih]
    by_cases h1 : f n = g
    · rw [if_pos (by omega), if_neg (by omega), if_pos h1]; omega
    · rw [if_neg h1]
      by_cases h2 : f n < g
      · rw [if_pos (by omega), if_pos h2]; omega
      · rw [if_neg (by omega), if_neg h2]; omega
theorem cntLt_zero (f : Nat → Nat) (n : Nat) : cntLt f 0 n = 0 := by
  induction n with
  | zero => rfl
  | succ n ih => unfold cntLt; rw [ih, if_neg (by omega)]
theorem cntEq_le (f : Nat → Nat) (g n : Nat) : cntEq f g n ≤ n := by
  induction n with
  | zero => exact Nat.le_refl _
  | succ n ih => unfold cntEq; split <;> omega
theorem cntEq_upd (f : Nat → Nat) (k : Nat) : (fun g => cntEq f g (k + 1)) = upd (fun g => cntEq f g k) (f k) (cntEq f (f k) k + 1) := by
  funext g
  by_cases e : g = f k
  · rw [e, upd_same]; show cntEq f (f k) k + _ = _; rw [if_pos rfl]
  · rw [upd_other _ _ _ e]; show cntEq f g k + _ = _; rw [if_neg (Ne.symm e)]; rfl

end Go.Proofs.Qxb6616210a
