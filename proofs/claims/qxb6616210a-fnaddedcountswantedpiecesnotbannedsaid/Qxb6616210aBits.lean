import Derived.Test.Qxb6616210aRow
namespace Go.Proofs.Qxb6616210a
open Go.RowKit
set_option linter.unusedVariables false
set_option linter.unusedSimpArgs false
set_option maxRecDepth 100000

set_option maxHeartbeats 1000000 in
theorem check_c (n c i : Int) (h0 : 0 ≤ i) (h1 : i < n) (BB FB nb nf : Nat) (w : World) :
    Calls Try.prog 43 #[.agg #[.slice (some ⟨BB, 0, Option.none⟩) nb nb, .int .i64 n, .int .i64 c, .slice (some ⟨FB, 0, Option.none⟩) nf nf], .int .i64 i] w fun e w' => e = .returned (.tuple #[]) ∧ Below w.heap.size w w' := by
  have k1 : decide (i < 0) = false := decide_eq_false (by omega)
  have k2 : decide (n ≤ i) = false := decide_eq_false (by omega)
  go_enter Try.func43, Try.ntmps43
  go_wp2_with fail
  simp [bodyPost, results, Try.results43, go_sem]
  exact (Below.refl _ _).alloc (Nat.le_refl _) _

/-- The mask of a piece in its byte. -/
def maskOf (i : Nat) : Int := 128 / 2 ^ min (i % 8) 8

theorem tdiv8 (i : Nat) : (i : Int).tdiv 8 = ((i / 8 : Nat) : Int) := by rw [Int.tdiv_eq_ediv_of_nonneg (by omega)]; rfl
theorem tmod8 (i : Nat) : (i : Int).tmod 8 = ((i % 8 : Nat) : Int) := by rw [Int.tmod_eq_emod_of_nonneg (by omega)]; rfl

set_option maxHeartbeats 1000000 in
theorem has_c (n c : Int) (i : Nat) (b : Int) (t : Bool) (h1 : (i : Int) < n) (hi : i ≤ 65536) (BB FB nb nf : Nat) (hqn : i / 8 < nb) (w : World) (hb : w.cell? ⟨BB, i / 8, Option.none⟩ = some (.int .u8 b)) (ht : (bits .and .u8 b (maskOf i) != 0) = t) :
    Calls Try.prog 37 #[.agg #[.slice (some ⟨BB, 0, Option.none⟩) nb nb, .int .i64 n, .int .i64 c, .slice (some ⟨FB, 0, Option.none⟩) nf nf], .int .i64 (i : Int)] w fun e w' => e = .returned (.bool t) ∧ Below w.heap.size w w' := by
  have C43 : Hid (∀ w, Calls Try.prog 43 #[.agg #[.slice (some ⟨BB, 0, Option.none⟩) nb nb, .int .i64 n, .int .i64 c, .slice (some ⟨FB, 0, Option.none⟩) nf nf], .int .i64 (i : Int)] w fun e w' => e = .returned (.tuple #[]) ∧ Below w.heap.size w w') := fun w => check_c n c i (by omega) h1 BB FB nb nf w
  have hq := tdiv8 i
  have hr := tmod8 i
  unfold maskOf at ht
  obtain ⟨q, hqq⟩ : ∃ q, q = i / 8 := ⟨_, rfl⟩
  obtain ⟨r, hrr⟩ : ∃ r, r = i % 8 := ⟨_, rfl⟩
  rw [← hqq] at hq hqn hb
  rw [← hrr] at hr ht
  have i1 : (q : Int) < (nb : Int) := by omega
  have wq : IntKind.i64.wrap (q : Int) = (q : Int) := by rw [IntKind.wrap_i64]; omega
  clear hqq hrr hqn
  go_enter Try.func37, Try.ntmps37
  go_wp2_with fail
  refine (C43.out _).mono ?_
  rintro e w1 ⟨rfl, hb1⟩
  have hc : w1.cell? ⟨BB, q, Option.none⟩ = some (.int .u8 b) := cell_below hb1 (cell_below ((Below.refl _ _).alloc (Nat.le_refl _) _) hb)
  have hc0 : w1.cell? ⟨w.heap.size, 0, Option.none⟩ = some (.slice (some ⟨BB, 0, Option.none⟩) nb nb) := cell_below hb1 (by simp [go_sem])
  have HB : Hid (Below w.heap.size w w1) := ((Below.refl _ _).alloc (Nat.le_refl _) _).trans (hb1.mono (by simp))
  clear hb1 hb
  go_wp2_with fail
  go_quiet (fail)
  go_wp2_with fail
  go_ret
  exact ⟨rfl, below_drewN HB.out _⟩

set_option maxHeartbeats 1000000 in
/-- pieceBits: some byte. -/
theorem pieceBits_c (n : Nat) (c : Int) (j : Int) (BB FB nb nf : Nat) (w : World) :
    Calls Try.prog 49 #[.agg #[.slice (some ⟨BB, 0, Option.none⟩) nb nb, .int .i64 (n : Int), .int .i64 c, .slice (some ⟨FB, 0, Option.none⟩) nf nf], .int .i64 j] w fun e w' => (∃ v : Int, e = .returned (.int .u8 v)) ∧ Below w.heap.size w w' := by
  have hr := tmod8 n
  obtain ⟨r, hrr⟩ : ∃ r, r = n % 8 := ⟨_, rfl⟩
  rw [← hrr] at hr
  obtain ⟨s, hs⟩ : ∃ s : Nat, IntKind.i64.wrap (8 - (r : Int)) = (s : Int) := ⟨8 - r, by rw [IntKind.wrap_i64]; omega⟩
  clear hrr
  go_enter Try.func49, Try.ntmps49
  go_wp2_with fail
  all_goals
    go_ret
    exact ⟨⟨_, rfl⟩, (Below.refl _ _).alloc (Nat.le_refl _) _⟩

end Go.Proofs.Qxb6616210a
