import Derived.Test.Qxb6616210aSwap
import Derived.Deep.RegionHeld3
namespace Go.Proofs.Qxb6616210a
open Go.RowKit
set_option linter.unusedVariables false
set_option linter.unusedSimpArgs false
set_option maxRecDepth 100000

/-- A rarity with its generator. -/
structure RarH (RB Q P OB PB GB SB n L C : Nat) (order pos group start : Nat → Nat) (w : World) : Prop where
  r : RarAt RB Q OB PB GB SB n L C order pos group start w
  d : RandAt Q P w
  y : ∃ y, PcgAt P y w
  ne : Q ≠ P ∧ (P ≠ RB ∧ P ≠ OB ∧ P ≠ PB ∧ P ≠ GB ∧ P ≠ SB) ∧ (Q ≠ RB ∧ Q ≠ OB ∧ Q ≠ PB ∧ Q ≠ GB ∧ Q ≠ SB)

/-- The blocks that a rarity writes. -/
def RarQ (P OB PB GB : Nat) (p : Addr) : Prop := p.block = P ∨ p.block = OB ∨ p.block = PB ∨ p.block = GB

section
variable {RB Q P OB PB GB SB n L C : Nat} {order pos group start : Nat → Nat} {w w' : World}
theorem RarH.below (h : RarH RB Q P OB PB GB SB n L C order pos group start w) (hb : Below w.heap.size w w') : RarH RB Q P OB PB GB SB n L C order pos group start w' := by
  obtain ⟨y, hy⟩ := h.y
  exact ⟨h.r.below hb, cell_below hb h.d, ⟨y, hy.below hb⟩, h.ne⟩
theorem RarH.drew (h : RarH RB Q P OB PB GB SB n L C order pos group start w) : RarH RB Q P OB PB GB SB n L C order pos group start w.drew := h.below (Below.refl _ _).drew

/-- IntN over a rarity's generator. -/
theorem RarH.intN (h : RarH RB Q P OB PB GB SB n L C order pos group start w) (m : Nat) (h1 : 1 ≤ m) (h2 : m < 4294967296) :
    Calls Try.prog 48 #[.pointer (some ⟨Q, 0, Option.none⟩), .int .i64 (m : Int)] w fun e w' => (∃ r : Nat, e = .returned (.int .i64 (r : Int)) ∧ r < m) ∧ RarH RB Q P OB PB GB SB n L C order pos group start w' ∧ Upd (fun p => p.block = P) w w' := by
  obtain ⟨y, hy⟩ := h.y
  obtain ⟨n1, ⟨n2, n3, n4, n5, n6⟩, n7⟩ := h.ne
  refine (intN_c w Q P m h1 h2 y w ⟨h.d, hy, n1, Upd.refl _ _⟩).mono ?_
  rintro e w' ⟨h3, y', h4⟩
  refine ⟨h3, ⟨h.r.upd h4.up (fun p hp => ?_), h4.r, ⟨y', h4.p⟩, h.ne⟩, h4.up⟩
  have e : p.block = P := hp
  rw [e]; exact ⟨n2, n3, n4, n5, n6⟩

/-- swap over a rarity. -/
theorem RarH.swap (h : RarH RB Q P OB PB GB SB n L C order pos group start w) (x y : Nat) (hx : x < n) (hy : y < n) (hn : n ≤ 65536) (hox : order x < n) (hoy : order y < n) (hinj : order x = order y → x = y) :
    Calls Try.prog 41 #[.pointer (some ⟨RB, 0, Option.none⟩), .int .i64 (x : Int), .int .i64 (y : Int)] w fun e w' => e = .returned (.tuple #[]) ∧ RarH RB Q P OB PB GB SB n L C (sw order x y) (upd (upd pos (order x) y) (order y) x) group start w' ∧ Upd (RarQ P OB PB GB) w w' := by
  obtain ⟨y', hy'⟩ := h.y
  obtain ⟨n1, ⟨n2, n3, n4, n5, n6⟩, n7, n8, n9, n10, n11⟩ := h.ne
  refine (swap_c RB Q OB PB GB SB n L C order pos group start x y hx hy hn hox hoy hinj w h.r).mono ?_
  rintro e w' ⟨rfl, h2, h3⟩
  refine ⟨rfl, ⟨h2, ?_, ⟨y', hy'.upd h3 (by rintro p (e | e) k; exact n3 (k.symm.trans e); exact n4 (k.symm.trans e))⟩, h.ne⟩, h3.mono (by rintro p (e | e); exact .inr (.inl e); exact .inr (.inr (.inl e)))⟩
  exact (h3.cell _ (World.block_lt_of_cell? w _ h.d) (by rintro (e | e); exact n8 e; exact n9 e)).trans h.d
end

end Go.Proofs.Qxb6616210a
