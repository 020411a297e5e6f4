import Derived.Test.Qxb6616096aDoorShift
import Derived.Test.Qxb6616096aDoorDiv
import Derived.Test.Qxb6616096aDoorShelf
import Derived.BigQuiet
import Derived.Deep.LoopGhost
import Derived.Deep.DeepCutAuto
namespace Go.Proofs.Qxb6616096aDoor
open Go.RowKit
set_option linter.unusedVariables false
set_option linter.unusedSimpArgs false
set_option maxRecDepth 100000

/-- A guess of a digit on its way down. -/
structure Guess (u d n1 n0 q r : Nat) : Prop where
  eq : u = q * n1 + r
  ge : (u * 4294967296 + d) / (n1 * 4294967296 + n0) ≤ q
  low : r < 4294967296
  top : q ≤ 4294967297

/-- The numbers of one step: what is laid ahead of the walk. -/
theorem guess_test {u d n1 n0 q r : Nat} (g : Guess u d n1 n0 q r) (hd : d < 4294967296) (hn0 : n0 < 4294967296) (hq : q < 4294967296) :
    IntKind.u64.wrap ((q : Int) * (n0 : Int)) = ((q * n0 : Nat) : Int) ∧ IntKind.u64.wrap (4294967296 * (r : Int)) = ((4294967296 * r : Nat) : Int) ∧
    IntKind.u64.wrap (((4294967296 * r : Nat) : Int) + (d : Int)) = ((4294967296 * r + d : Nat) : Int) := by
  have h1 : q * n0 ≤ 4294967295 * 4294967295 := Nat.mul_le_mul (by omega) (by omega)
  have h2 := g.low
  refine ⟨?_, ?_, ?_⟩
  · rw [IntKind.wrap_u64, ← Int.natCast_mul]; omega
  · rw [IntKind.wrap_u64]; omega
  · rw [IntKind.wrap_u64]; omega

theorem guess_dec {u d n1 n0 q r : Nat} (g : Guess u d n1 n0 q r) (hn1 : 0 < n1) (hn1' : n1 < 4294967296) (hu : u < n1 * 4294967296 + n0) (hd : d < 4294967296)
    (ht : 4294967296 ≤ q ∨ 4294967296 * r + d < q * n0) :
    IntKind.u64.wrap ((q : Int) - 1) = ((q - 1 : Nat) : Int) ∧ IntKind.u64.wrap ((r : Int) + (n1 : Int)) = ((r + n1 : Nat) : Int) ∧
    u = (q - 1) * n1 + (r + n1) ∧ (u * 4294967296 + d) / (n1 * 4294967296 + n0) ≤ q - 1 ∧ q - 1 ≤ 4294967296 ∧ 1 ≤ q := by
  have hdec := Pl.dig_dec u d n1 n0 q r hn1 hu hd g.eq ht
  have h2 := g.low
  have h3 := g.top
  have hge := g.ge
  have e := g.eq
  generalize (u * 4294967296 + d) / (n1 * 4294967296 + n0) = Q at *
  have hq1 : 1 ≤ q := by omega
  refine ⟨?_, ?_, ?_, by omega, by omega, hq1⟩
  · rw [IntKind.wrap_u64]; omega
  · rw [IntKind.wrap_u64]; omega
  · have : q * n1 = (q - 1) * n1 + n1 := by
      conv => lhs; rw [show q = (q - 1) + 1 from by omega]
      rw [Nat.add_mul, Nat.one_mul]
    omega

/-- One round of the guess, each way with what the walk asks (whole numbers: a literal beside a cast natural sends the walk's simp down the literal). -/
def Way (d n1 n0 q r Qd A R T q2 r2 : Int) (G : Prop) (c : Nat) : Prop :=
  match c with
  | 0 => decide (4294967296 ≤ q) = false ∧ IntKind.u64.wrap (q * n0) = A ∧ IntKind.u64.wrap (4294967296 * r) = R ∧ IntKind.u64.wrap (R + d) = T ∧ decide (T < A) = false ∧ q = Qd
  | 1 => decide (4294967296 ≤ q) = true ∧ IntKind.u64.wrap (q - 1) = q2 ∧ IntKind.u64.wrap (r + n1) = r2 ∧ decide (4294967296 ≤ r2) = true ∧ q2 = Qd
  | 2 => decide (4294967296 ≤ q) = false ∧ IntKind.u64.wrap (q * n0) = A ∧ IntKind.u64.wrap (4294967296 * r) = R ∧ IntKind.u64.wrap (R + d) = T ∧ decide (T < A) = true ∧
      IntKind.u64.wrap (q - 1) = q2 ∧ IntKind.u64.wrap (r + n1) = r2 ∧ decide (4294967296 ≤ r2) = true ∧ q2 = Qd
  | 3 => decide (4294967296 ≤ q) = true ∧ IntKind.u64.wrap (q - 1) = q2 ∧ IntKind.u64.wrap (r + n1) = r2 ∧ decide (4294967296 ≤ r2) = false ∧ Hid (G ∧ q2.toNat < q.toNat)
  | _ => decide (4294967296 ≤ q) = false ∧ IntKind.u64.wrap (q * n0) = A ∧ IntKind.u64.wrap (4294967296 * r) = R ∧ IntKind.u64.wrap (R + d) = T ∧ decide (T < A) = true ∧
      IntKind.u64.wrap (q - 1) = q2 ∧ IntKind.u64.wrap (r + n1) = r2 ∧ decide (4294967296 ≤ r2) = false ∧ Hid (G ∧ q2.toNat < q.toNat)

def GuessI (u d n1 n0 : Nat) (q r : Int) : Prop := ∃ q' r' : Nat, q = (q' : Int) ∧ r = (r' : Int) ∧ Guess u d n1 n0 q' r'

theorem ltI (a b : Nat) : ((a : Int) < (b : Int)) ↔ a < b := by omega
theorem leI (a b : Nat) : ((a : Int) ≤ (b : Int)) ↔ a ≤ b := by omega

theorem guess_ways {u d n1 n0 : Nat} {q r di n1i n0i : Int} (g : GuessI u d n1 n0 q r) (e1 : di = (d : Int)) (e2 : n1i = (n1 : Int)) (e3 : n0i = (n0 : Int)) (hn1 : 0 < n1) (hn1' : n1 < 4294967296) (hn0 : n0 < 4294967296) (hu : u < n1 * 4294967296 + n0) (hd : d < 4294967296)
    (Qd : Int) (hQ : Qd = (((u * 4294967296 + d) / (n1 * 4294967296 + n0) : Nat) : Int)) :
    ∃ A R T q2 r2 : Int, Way di n1i n0i q r Qd A R T q2 r2 (GuessI u d n1 n0 q2 r2) 0 ∨ Way di n1i n0i q r Qd A R T q2 r2 (GuessI u d n1 n0 q2 r2) 1 ∨ Way di n1i n0i q r Qd A R T q2 r2 (GuessI u d n1 n0 q2 r2) 2 ∨ Way di n1i n0i q r Qd A R T q2 r2 (GuessI u d n1 n0 q2 r2) 3 ∨ Way di n1i n0i q r Qd A R T q2 r2 (GuessI u d n1 n0 q2 r2) 4 := by
  obtain ⟨q', r', rfl, rfl, g⟩ := g
  subst e1 e2 e3 hQ
  refine ⟨((q' * n0 : Nat) : Int), ((4294967296 * r' : Nat) : Int), ((4294967296 * r' + d : Nat) : Int), ((q' - 1 : Nat) : Int), ((r' + n1 : Nat) : Int), ?_⟩
  by_cases hq : 4294967296 ≤ q'
  · have hqi : (4294967296 : Int) ≤ (q' : Int) := by omega
    obtain ⟨d1, d2, d3, d4, d5, d6⟩ := guess_dec g hn1 hn1' hu hd (.inl hq)
    by_cases hr : 4294967296 ≤ r' + n1
    · have hri : (4294967296 : Int) ≤ ((r' + n1 : Nat) : Int) := by omega
      refine .inr (.inl ⟨decide_eq_true hqi, d1, d2, decide_eq_true hri, ?_⟩)
      exact congrArg Int.ofNat (Pl.dig_break u d n1 n0 _ _ hn1 hn0 d3 d4 d5 hr)
    · have hri : ¬ (4294967296 : Int) ≤ ((r' + n1 : Nat) : Int) := by omega
      exact .inr (.inr (.inr (.inl ⟨decide_eq_true hqi, d1, d2, decide_eq_false hri, ⟨_, _, rfl, rfl, d3, d4, by omega, by omega⟩, by rw [Int.toNat_natCast, Int.toNat_natCast]; omega⟩)))
  · have hqi : ¬ (4294967296 : Int) ≤ (q' : Int) := by omega
    obtain ⟨m1, m2, m3⟩ := guess_test g hd hn0 (by omega)
    by_cases ht : 4294967296 * r' + d < q' * n0
    · have hti : ((4294967296 * r' + d : Nat) : Int) < ((q' * n0 : Nat) : Int) := (ltI _ _).2 ht
      obtain ⟨d1, d2, d3, d4, d5, d6⟩ := guess_dec g hn1 hn1' hu hd (.inr ht)
      by_cases hr : 4294967296 ≤ r' + n1
      · have hri : (4294967296 : Int) ≤ ((r' + n1 : Nat) : Int) := by omega
        refine .inr (.inr (.inl ⟨decide_eq_false hqi, m1, m2, m3, decide_eq_true hti, d1, d2, decide_eq_true hri, ?_⟩))
        exact congrArg Int.ofNat (Pl.dig_break u d n1 n0 _ _ hn1 hn0 d3 d4 d5 hr)
      · have hri : ¬ (4294967296 : Int) ≤ ((r' + n1 : Nat) : Int) := by omega
        exact .inr (.inr (.inr (.inr ⟨decide_eq_false hqi, m1, m2, m3, decide_eq_true hti, d1, d2, decide_eq_false hri, ⟨_, _, rfl, rfl, d3, d4, by omega, by omega⟩, by rw [Int.toNat_natCast, Int.toNat_natCast]; omega⟩)))
    · have hti : ¬ ((4294967296 * r' + d : Nat) : Int) < ((q' * n0 : Nat) : Int) := fun h => ht ((ltI _ _).1 h)
      refine .inl ⟨decide_eq_false hqi, m1, m2, m3, decide_eq_false hti, ?_⟩
      exact congrArg Int.ofNat (Pl.dig_stop u d n1 n0 _ _ hn1 g.eq g.ge (by omega))

end Go.Proofs.Qxb6616096aDoor
