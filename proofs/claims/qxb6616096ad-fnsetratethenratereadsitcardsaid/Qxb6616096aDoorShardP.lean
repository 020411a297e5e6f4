import Derived.Test.Qxb6616096aDoorShardW
namespace Go.Proofs.Qxb6616096aDoor
open Go.RowKit
set_option linter.unusedVariables false
set_option linter.unusedSimpArgs false
set_option maxRecDepth 100000

/-- The first k of f, 0 behind. -/
def pre (f : Nat → Int) (k : Nat) : Nat → Int := fun j => if j < k then f j else 0
theorem pre_next (f : Nat → Int) (k : Nat) : upd (pre f k) k (f k) = pre f (k + 1) := by
  funext j
  unfold upd pre
  by_cases h : j = k
  · subst h; simp
  · rw [if_neg h]
    by_cases h2 : j < k
    · rw [if_pos h2, if_pos (by omega)]
    · rw [if_neg h2, if_neg (by omega)]

/-- Who has a rate of its own among the first k. -/
def Owns (has : Nat → Bool) (n k : Nat) (P : Nat → Option Nat) : Prop := ∀ j, j < n → ((P j).isSome = true ↔ (j < k ∧ has j = true))
theorem Owns.none (has : Nat → Bool) (n : Nat) : Owns has n 0 (fun _ => Option.none) := fun j _ => by simp
theorem Owns.no {has : Nat → Bool} {n k : Nat} {P : Nat → Option Nat} (h : Owns has n k P) (hk : has k = false) : Owns has n (k + 1) P := fun j hj => by
  rw [h j hj]
  constructor
  · rintro ⟨a, b⟩; exact ⟨by omega, b⟩
  · rintro ⟨a, b⟩
    refine ⟨?_, b⟩
    rcases Nat.lt_or_eq_of_le (Nat.le_of_lt_succ a) with c | c
    · exact c
    · subst c; rw [hk] at b; cases b
theorem Owns.yes {has : Nat → Bool} {n k : Nat} {P : Nat → Option Nat} (h : Owns has n k P) (hk : has k = true) (B : Nat) : Owns has n (k + 1) (upd P k (some B)) := fun j hj => by
  unfold upd
  by_cases c : j = k
  · subst c; simp [hk]
  · rw [if_neg c, h j hj]
    constructor
    · rintro ⟨a, b⟩; exact ⟨by omega, b⟩
    · rintro ⟨a, b⟩; exact ⟨by omega, b⟩

/-- What ZZnewShard answers. -/
def RetShard (w : World) (n : Nat) (tok pha las : Nat → Int) (own : Nat → Nat) (has : Nat → Bool) (OK : Int → Int → Int → Int → Int → Prop) (e' : Ending) (w' : World) : Prop :=
  ∃ S BB RB P, e' = .returned (.pointer (some ⟨S, 0, Option.none⟩)) ∧ ShS w S BB RB n (pre tok n) (pre pha n) (pre las n) P own OK w' ∧ Owns has n n P

end Go.Proofs.Qxb6616096aDoor
