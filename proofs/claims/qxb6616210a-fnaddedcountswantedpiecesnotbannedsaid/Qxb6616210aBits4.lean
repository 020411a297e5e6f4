import Derived.Test.Qxb6616210aBits3
namespace Go.Proofs.Qxb6616210a
open Go.RowKit
set_option linter.unusedVariables false
set_option linter.unusedSimpArgs false
set_option maxRecDepth 100000

theorem mk57 (n : Nat) (hn : n ≤ 2000000) : ∃ ob, MadeOf (.int .u8 0) n ob ∧ ∀ w, (Instr.makeSlice 57 (.int .i64 n) (.int .i64 n)).run Try.prog w = .ok (.slice (some ⟨w.heap.size, 0, Option.none⟩) n n) (w.alloc ob) := by
  have h := fun w => run_mk 57 5 (.int .u8 0) 1 1 Try.underlying57 (by kernel_rfl) n (by decide) hn w
  simp only [Nat.mul_one] at h
  exact ⟨_, ⟨5, rfl⟩, h⟩
theorem mk58 (n : Nat) (hn : n ≤ 2000000) : ∃ ob, MadeOf (.int .u64 0) n ob ∧ ∀ w, (Instr.makeSlice 58 (.int .i64 n) (.int .i64 n)).run Try.prog w = .ok (.slice (some ⟨w.heap.size, 0, Option.none⟩) n n) (w.alloc ob) := by
  have h := fun w => run_mk 58 22 (.int .u64 0) 1 8 Try.underlying58 (by kernel_rfl) n (by decide) hn w
  simp only [Nat.mul_one] at h
  exact ⟨_, ⟨22, rfl⟩, h⟩

theorem krow_made {k : IntKind} {n : Nat} {ob : Obj} (h : MadeOf (.int k 0) n ob) (w : World) : KRow k w.heap.size n (w.alloc ob) :=
  ⟨fun j hj => ⟨0, h.cell w j hj⟩, fun j => h.froz w j, by simp⟩

/-- No byte is set. -/
def ZeroB (BB nb : Nat) (w : World) : Prop := ∀ j, j < nb → w.cell? ⟨BB, j, Option.none⟩ = some (.int .u8 0)

/-- What bitfield.New answers. -/
def RetBits (w : World) (nb nf n : Nat) (e : Ending) (w' : World) : Prop :=
  ∃ BB FB, e = .returned (.agg #[.slice (some ⟨BB, 0, Option.none⟩) nb nb, .int .i64 (n : Int), .int .i64 0, .slice (some ⟨FB, 0, Option.none⟩) nf nf]) ∧ KRow .u8 BB nb w' ∧ KRow .u64 FB nf w' ∧ ZeroB BB nb w' ∧ w.heap.size ≤ BB ∧ w.heap.size ≤ FB ∧ BB ≠ FB ∧ Below w.heap.size w w'

theorem blk_alloc (w' : World) (o : Obj) : Below w'.heap.size w' (w'.alloc o) := (Below.refl _ _).alloc (Nat.le_refl _) _

theorem made_at {z : Value} {n : Nat} {ob : Obj} (h : MadeOf z n ob) (w : World) {B : Nat} (hB : B = w.heap.size) (j : Nat) (hj : j < n) : (w.alloc ob).cell? ⟨B, j, Option.none⟩ = some z := by subst hB; exact h.cell w j hj
theorem krow_at {k : IntKind} {n : Nat} {ob : Obj} (h : MadeOf (.int k 0) n ob) (w : World) {B : Nat} (hB : B = w.heap.size) : KRow k B n (w.alloc ob) := by subst hB; exact krow_made h w

theorem retBits_1 {n nb nf : Nat} {ob of o : Obj} (h1 : MadeOf (.int .u8 0) nb ob) (h2 : MadeOf (.int .u64 0) nf of) (w : World) :
    RetBits w nb nf n (.returned (.agg #[.slice (some ⟨w.heap.size + 1, 0, Option.none⟩) nb nb, .int .i64 (n : Int), .int .i64 0, .slice (some ⟨w.heap.size + 1 + 1, 0, Option.none⟩) nf nf])) ((((w.alloc o).alloc ob).alloc of).drew) :=
  ⟨_, _, rfl, (((krow_at h1 (w.alloc o) (by simp)).below (blk_alloc _ _)).below (Below.refl _ _).drew), ((krow_at h2 ((w.alloc o).alloc ob) (by simp)).below (Below.refl _ _).drew), fun j hj => cell_below (blk_alloc _ _) (made_at h1 (w.alloc o) (by simp) j hj), by omega, by omega, by omega, (((blk_alloc w o).alloc (by simp) _).alloc (by simp; omega) _).drew⟩
theorem retBits_2 {n nb nf : Nat} {ob of o : Obj} (h1 : MadeOf (.int .u8 0) nb ob) (h2 : MadeOf (.int .u64 0) nf of) (w : World) :
    RetBits w nb nf n (.returned (.agg #[.slice (some ⟨w.heap.size + 1 + 1, 0, Option.none⟩) nb nb, .int .i64 (n : Int), .int .i64 0, .slice (some ⟨w.heap.size + 1, 0, Option.none⟩) nf nf])) ((((w.alloc o).alloc of).alloc ob).drew) :=
  ⟨_, _, rfl, ((krow_at h1 ((w.alloc o).alloc of) (by simp)).below (Below.refl _ _).drew), (((krow_at h2 (w.alloc o) (by simp)).below (blk_alloc _ _)).below (Below.refl _ _).drew), fun j hj => made_at h1 ((w.alloc o).alloc of) (by simp) j hj, by omega, by omega, by omega, (((blk_alloc w o).alloc (by simp) _).alloc (by simp; omega) _).drew⟩

set_option maxHeartbeats 2000000 in
theorem newBits_c (n : Nat) (hn : n ≤ 65536) (w : World) :
    Calls Try.prog 35 #[.int .i64 (n : Int)] w fun e w' => RetBits w ((n + 7) / 8) (((n + 7) / 8 + 63) / 64) n e w' := by
  obtain ⟨nb, hnb⟩ : ∃ nb, nb = (n + 7) / 8 := ⟨_, rfl⟩
  obtain ⟨nf, hnf⟩ : ∃ nf, nf = (nb + 63) / 64 := ⟨_, rfl⟩
  rw [← hnb, ← hnf]
  obtain ⟨ob, hob, hmk⟩ := mk57 nb (by omega)
  obtain ⟨of, hof, hmf⟩ := mk58 nf (by omega)
  have HOB : Hid (MadeOf (.int .u8 0) nb ob ∧ MadeOf (.int .u64 0) nf of) := ⟨hob, hof⟩
  have e1 : IntKind.i64.wrap ((n : Int) + 7) = ((n + 7 : Nat) : Int) := by rw [IntKind.wrap_i64]; omega
  obtain ⟨n7, hn7⟩ : ∃ n7, n7 = n + 7 := ⟨_, rfl⟩
  rw [← hn7] at e1
  have e2 : IntKind.i64.wrap ((n7 : Int).tdiv 8) = (nb : Int) := by rw [tdiv8, IntKind.wrap_i64]; omega
  obtain ⟨m, hm⟩ : ∃ m, m = nb + 63 := ⟨_, rfl⟩
  have e3 : IntKind.i64.wrap ((nb : Int) + 63) = (m : Int) := by rw [IntKind.wrap_i64]; omega
  have e4 : IntKind.i64.wrap ((m : Int).tdiv 64) = (nf : Int) := by
    rw [show (m : Int).tdiv 64 = ((m / 64 : Nat) : Int) from by rw [Int.tdiv_eq_ediv_of_nonneg (by omega)]; rfl, IntKind.wrap_i64]; omega
  have e2' : IntKind.i64.wrap ((n7 : Int) / 8) = (nb : Int) := by rw [IntKind.wrap_i64]; omega
  have e4' : IntKind.i64.wrap ((m : Int) / 64) = (nf : Int) := by rw [IntKind.wrap_i64]; omega
  clear hnb hnf hn7 hm hob hof
  go_enter Try.func35, Try.ntmps35
  go_wp2_with fail
  go_region
  all_goals go_wp2_with fail
  all_goals simp [bodyPost, results, Try.results35, go_sem]
  · exact retBits_1 HOB.out.1 HOB.out.2 w
  · exact retBits_2 HOB.out.1 HOB.out.2 w

set_option maxHeartbeats 1000000 in
theorem newPCG_c (s1 s2 : Nat) (h1 : s1 < 18446744073709551616) (h2 : s2 < 18446744073709551616) (w : World) :
    Calls Try.prog 33 #[.int .u64 (s1 : Int), .int .u64 (s2 : Int)] w fun e w' => e = .returned (.pointer (some ⟨w.heap.size, 0, Option.none⟩)) ∧ w' = w.alloc (.cells #[.int .u64 (s1 : Int), .int .u64 (s2 : Int)] 78) := by
  go_enter Try.func33, Try.ntmps33
  go_wp2_with fail
  go_ret
  exact ⟨rfl, rfl⟩

set_option maxHeartbeats 1000000 in
theorem newRand_c (v : Value) (P : Nat) (hv : v = .iface 52 (.pointer (some ⟨P, 0, Option.none⟩))) (w : World) :
    Calls Try.prog 32 #[.iface 52 (.pointer (some ⟨P, 0, Option.none⟩))] w fun e w' => e = .returned (.pointer (some ⟨w.heap.size, 0, Option.none⟩)) ∧ w' = w.alloc (.cells #[.iface 52 (.pointer (some ⟨P, 0, Option.none⟩))] 76) := by
  clear hv
  go_enter Try.func32, Try.ntmps32
  go_wp2_with fail
  go_ret
  exact ⟨rfl, rfl⟩

end Go.Proofs.Qxb6616210a
