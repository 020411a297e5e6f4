import Derived.Test.Qxb6616096aDoorEnd
import Derived.Test.Qxb6616096aDoorShardP
namespace Go.Proofs.Qxb6616096aDoor
open Go.RowKit
set_option linter.unusedVariables false
set_option linter.unusedSimpArgs false
set_option maxRecDepth 100000
open Pl

/-- What is known of key i's bucket at the end. -/
def EndR (burst T P L now T' P' L' : Int) : Prop :=
  (T = -1 ∧ T' = T ∧ P' = P ∧ L' = L) ∨ (T ≠ -1 ∧ T ≤ T' ∧ T' ≤ burst ∧ L' = (if L < now then now else L) ∧ (T' = burst → P' = 0) ∧ (now ≤ L → T' = T ∧ P' = 0))

theorem end_new {w w0 w7 w8 : World} {L0 A LB KB S BB RB n i Bt Bp Bl Bo Bh : Nat} {burst : Int} {mn mx init ic dc t : Nat} {per m o e d f now : Int} {tok pha las : Nat → Int} {bt bp bl : Nat → Int} {own : Nat → Nat} {has : Nat → Bool} {P : Nat → Option Nat} {OK : Int → Int → Int → Int → Int → Prop}
    (hl0 : w0.cell? ⟨L0, 0, Option.none⟩ = some (.int .i64 burst)) (hl3 : w0.cell? ⟨L0, 3, Option.none⟩ = some (.float .f64 init)) (hA : Adap A LB KB burst mn mx init ic dc per m o e d f w0) (hF : Five Bt Bp Bl Bo Bh n tok pha las own has w0) (hb : Below w.heap.size w w0)
    (hS : ShS w0 S BB RB n bt bp bl P own OK w7) (ht : ∀ j, j < n → bt j = tok j ∧ bp j = pha j ∧ bl j = las j) (hO : Owns has n n P) (hi : i < n) (hZ : ZPost BB RB i t burst (bt i) (bp i) (bl i) now w7 w8) :
    ∃ P' T1 P1 L1, EndS w L0 A S BB RB n i Bt Bp Bl Bo Bh burst init t tok pha las own has P' T1 P1 L1 w8 ∧ EndR burst (tok i) (pha i) (las i) now T1 P1 L1 := by
  obtain ⟨TB, hTB, hTc, T1, P1, L1, z0, z1, z2, zr, hU, hR⟩ := hZ
  obtain ⟨n1, n2, n3, n4, n5, n6, n7, n8⟩ := hS.ne
  have hsz : w0.heap.size ≤ w7.heap.size := hS.low.size
  have lo : ∀ {p : Addr} {v : Value}, w0.cell? p = some v → w8.cell? p = some v := fun {p v} hp => by
    have hl := World.block_lt_of_cell? w0 _ hp
    rw [hU.cell p (Nat.lt_of_lt_of_le hl hsz) (by rintro (⟨a, _⟩ | ⟨a, _⟩) <;> omega), hS.low.cell hl]
    exact hp
  have ot : ∀ {p : Addr} {v : Value}, p.block ≠ BB → p.block ≠ RB → w7.cell? p = some v → w8.cell? p = some v := fun {p v} h1 h2 hp => by
    rw [hU.cell p (World.block_lt_of_cell? w7 _ hp) (by rintro (⟨a, _⟩ | ⟨a, _⟩) <;> omega)]
    exact hp
  have bk : ∀ {q : Nat} {v : Value}, q ≠ i * 3 → q ≠ i * 3 + 1 → q ≠ i * 3 + 2 → w7.cell? ⟨BB, q, Option.none⟩ = some v → w8.cell? ⟨BB, q, Option.none⟩ = some v := fun {q v} h1 h2 h3 hp => by
    rw [hU.cell _ (World.block_lt_of_cell? w7 _ hp) ?_]
    · exact hp
    · rintro (⟨_, a, b⟩ | ⟨a, _⟩)
      · have a' : i * 3 ≤ q := a
        have b' : q < i * 3 + 3 := b
        omega
      · exact n6 a
  obtain ⟨e1, e2, e3⟩ := ht i hi
  refine ⟨upd P i (some TB), T1, P1, L1, ⟨lo hl0, lo hl3, lo hA.a4, ot n4 n5 hS.s4, ot n4 n5 hS.s5, ?_, ?_, ?_, z0, z1, z2, ?_, ?_, ?_, ?_⟩, ?_⟩
  · intro j hj hji
    rw [← (ht j hj).1]
    exact bk (by omega) (by omega) (by omega) (hS.b0 j hj)
  · intro j hj hji
    rw [← (ht j hj).2.1]
    exact bk (by omega) (by omega) (by omega) (hS.b1 j hj)
  · intro j hj hji
    rw [← (ht j hj).2.2]
    exact bk (by omega) (by omega) (by omega) (hS.b2 j hj)
  · intro j hj
    unfold upd
    by_cases hji : j = i
    · subst hji; rw [if_pos rfl]; exact zr
    · rw [if_neg hji]
      have hp := hS.rc j hj
      rw [hU.cell _ (World.block_lt_of_cell? w7 _ hp) ?_]
      · exact hp
      · rintro (⟨a, _⟩ | ⟨_, a⟩)
        · exact n6 (Eq.symm a)
        · exact hji a
  · intro j hj
    unfold upd
    by_cases hji : j = i
    · exact .inr ⟨TB, by rw [if_pos hji], by rw [if_pos hji]; exact hTc, fun h => absurd hji h⟩
    · rw [if_neg hji]
      cases hP : P j with
      | none =>
        refine .inl ⟨rfl, hji, ?_⟩
        have h := hO j hj
        rw [hP] at h
        cases hh : has j with
        | false => rfl
        | true => exact absurd (h.2 ⟨hj, hh⟩) (by simp)
      | some B =>
        obtain ⟨q1, q2, q3, q4, q5⟩ := hS.pr j hj B hP
        refine .inr ⟨B, rfl, ?_, fun _ => ?_⟩
        · rw [if_neg hji]; exact ot q3 q4 q1
        · have h := hO j hj
          rw [hP] at h
          exact (h.1 rfl).2
  · exact ⟨fun j hj => lo (hF.t j hj), fun j hj => lo (hF.p j hj), fun j hj => lo (hF.l j hj), fun j hj => lo (hF.o j hj), fun j hj => lo (hF.h j hj)⟩
  · have hw0 := hb.size
    exact (hb.trans (hS.low.mono hw0)).trans (hU.low w.heap.size (by rintro p (⟨a, _⟩ | ⟨a, _⟩) <;> omega) (by omega))
  · rw [← e1, ← e2, ← e3]; exact hR

end Go.Proofs.Qxb6616096aDoor
