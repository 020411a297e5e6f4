import Derived.Test.Qxb6616096aDoorSetW
import Derived.Test.Qxb6616096aDoorAdapW
namespace Go.Proofs.Qxb6616096aDoor
open Go.RowKit
set_option linter.unusedVariables false
set_option linter.unusedSimpArgs false
set_option maxRecDepth 100000

/-- The five slices. -/
structure Five (Bt Bp Bl Bo Bh n : Nat) (tok pha las : Nat → Int) (own : Nat → Nat) (has : Nat → Bool) (w : World) : Prop where
  t : ∀ j, j < n → w.cell? ⟨Bt, j, Option.none⟩ = some (.int .i64 (tok j))
  p : ∀ j, j < n → w.cell? ⟨Bp, j, Option.none⟩ = some (.int .u64 (pha j))
  l : ∀ j, j < n → w.cell? ⟨Bl, j, Option.none⟩ = some (.int .i64 (las j))
  o : ∀ j, j < n → w.cell? ⟨Bo, j, Option.none⟩ = some (.float .f64 (own j))
  h : ∀ j, j < n → w.cell? ⟨Bh, j, Option.none⟩ = some (.bool (has j))

theorem cell_below {w w' : World} (hb : Below w.heap.size w w') {p : Addr} {v : Value} (h : w.cell? p = some v) : w'.cell? p = some v := (hb.cell (World.block_lt_of_cell? w _ h)).trans h
theorem froz_below {w w' : World} (hb : Below w.heap.size w w') {p : Addr} {v : Value} {b : Bool} (hc : w.cell? p = some v) (h : w.frozen? p = b) : w'.frozen? p = b := (hb.frozen (World.block_lt_of_cell? w _ hc)).trans h

theorem Five.below {Bt Bp Bl Bo Bh n : Nat} {tok pha las : Nat → Int} {own : Nat → Nat} {has : Nat → Bool} {w w' : World} (h : Five Bt Bp Bl Bo Bh n tok pha las own has w) (hb : Below w.heap.size w w') : Five Bt Bp Bl Bo Bh n tok pha las own has w' :=
  ⟨fun j hj => cell_below hb (h.t j hj), fun j hj => cell_below hb (h.p j hj), fun j hj => cell_below hb (h.l j hj), fun j hj => cell_below hb (h.o j hj), fun j hj => cell_below hb (h.h j hj)⟩
theorem Five.low {Bt Bp Bl Bo Bh n : Nat} {tok pha las : Nat → Int} {own : Nat → Nat} {has : Nat → Bool} {w w' : World} (h : Five Bt Bp Bl Bo Bh n tok pha las own has w) (hb : Below w.heap.size w w') : Five Bt Bp Bl Bo Bh n tok pha las own has w' := h.below hb

/-- A shard in memory. -/
structure ShS (w0 : World) (S BB RB n : Nat) (bt bp bl : Nat → Int) (P : Nat → Option Nat) (own : Nat → Nat) (OK : Int → Int → Int → Int → Int → Prop) (wx : World) : Prop where
  s4 : wx.cell? ⟨S, 4, Option.none⟩ = some (.slice (some ⟨BB, 0, Option.none⟩) n n)
  s5 : wx.cell? ⟨S, 5, Option.none⟩ = some (.slice (some ⟨RB, 0, Option.none⟩) n n)
  s6 : wx.cell? ⟨S, 6, Option.none⟩ = some (.bool true)
  b0 : ∀ j, j < n → wx.cell? ⟨BB, j * 3, Option.none⟩ = some (.int .i64 (bt j))
  b1 : ∀ j, j < n → wx.cell? ⟨BB, j * 3 + 1, Option.none⟩ = some (.int .u64 (bp j))
  b2 : ∀ j, j < n → wx.cell? ⟨BB, j * 3 + 2, Option.none⟩ = some (.int .i64 (bl j))
  g0 : ∀ j, wx.frozen? ⟨BB, j, Option.none⟩ = false
  rc : ∀ j, j < n → wx.cell? ⟨RB, j, Option.none⟩ = some (ptr? (P j))
  rf : ∀ j, wx.frozen? ⟨RB, j, Option.none⟩ = false
  pr : ∀ j, j < n → ∀ B, P j = some B → wx.cell? ⟨B, 0, Option.none⟩ = some (.float .f64 (own j)) ∧ (∃ m o e d f, RateAt B 1 m o e d f wx ∧ OK m o e d f) ∧ B ≠ BB ∧ B ≠ RB ∧ w0.heap.size ≤ B
  ne : w0.heap.size ≤ S ∧ w0.heap.size ≤ BB ∧ w0.heap.size ≤ RB ∧ S ≠ BB ∧ S ≠ RB ∧ BB ≠ RB ∧ BB < wx.heap.size ∧ RB < wx.heap.size
  low : Below w0.heap.size w0 wx

section
variable {w0 : World} {S BB RB n : Nat} {bt bp bl : Nat → Int} {P : Nat → Option Nat} {own : Nat → Nat} {OK : Int → Int → Int → Int → Int → Prop} {wx w' : World}

theorem ShS.below (h : ShS w0 S BB RB n bt bp bl P own OK wx) (hb : Below wx.heap.size wx w') : ShS w0 S BB RB n bt bp bl P own OK w' := by
  obtain ⟨n1, n2, n3, n4, n5, n6, n7, n8⟩ := h.ne
  refine ⟨cell_below hb h.s4, cell_below hb h.s5, cell_below hb h.s6, fun j hj => cell_below hb (h.b0 j hj), fun j hj => cell_below hb (h.b1 j hj), fun j hj => cell_below hb (h.b2 j hj), fun j => (hb.frozen n7).trans (h.g0 j), fun j hj => cell_below hb (h.rc j hj), fun j => (hb.frozen n8).trans (h.rf j), ?_, ⟨n1, n2, n3, n4, n5, n6, Nat.lt_of_lt_of_le n7 hb.size, Nat.lt_of_lt_of_le n8 hb.size⟩, h.low.trans (hb.mono h.low.size)⟩
  intro j hj B hB
  obtain ⟨q1, ⟨m, o, e, d, f, q2, q3⟩, q4⟩ := h.pr j hj B hB
  exact ⟨cell_below hb q1, ⟨m, o, e, d, f, q2.below hb, q3⟩, q4⟩

theorem ShS.drew (h : ShS w0 S BB RB n bt bp bl P own OK wx) : ShS w0 S BB RB n bt bp bl P own OK wx.drew := by
  refine ⟨h.s4, h.s5, h.s6, h.b0, h.b1, h.b2, h.g0, h.rc, h.rf, ?_, h.ne, h.low.drew⟩
  intro j hj B hB
  obtain ⟨q1, ⟨m, o, e, d, f, q2, q3⟩, q4⟩ := h.pr j hj B hB
  exact ⟨q1, ⟨m, o, e, d, f, q2.drew, q3⟩, q4⟩

def upd {α : Type} (f : Nat → α) (i : Nat) (x : α) : Nat → α := fun j => if j = i then x else f j

theorem ShS.setB (h : ShS w0 S BB RB n bt bp bl P own OK wx) (i : Nat) (hi : i < n) (T1 P1 L1 : Int) :
    ShS w0 S BB RB n (upd bt i T1) (upd bp i P1) (upd bl i L1) P own OK (((wx.setCell ⟨BB, i * 3, Option.none⟩ (.int .i64 T1)).setCell ⟨BB, i * 3 + 1, Option.none⟩ (.int .u64 P1)).setCell ⟨BB, i * 3 + 2, Option.none⟩ (.int .i64 L1)) := by
  obtain ⟨n1, n2, n3, n4, n5, n6, n7, n8⟩ := h.ne
  have g : ∀ (q : Addr), q.block ≠ BB → (((wx.setCell ⟨BB, i * 3, Option.none⟩ (.int .i64 T1)).setCell ⟨BB, i * 3 + 1, Option.none⟩ (.int .u64 P1)).setCell ⟨BB, i * 3 + 2, Option.none⟩ (.int .i64 L1)).cell? q = wx.cell? q := fun q hq => by
    rw [World.cell?_setCell_other _ _ _ _ (fun e => hq (by rw [← e])), World.cell?_setCell_other _ _ _ _ (fun e => hq (by rw [← e])), World.cell?_setCell_other _ _ _ _ (fun e => hq (by rw [← e]))]
  have g' : ∀ (q : Nat), q ≠ i * 3 → q ≠ i * 3 + 1 → q ≠ i * 3 + 2 → (((wx.setCell ⟨BB, i * 3, Option.none⟩ (.int .i64 T1)).setCell ⟨BB, i * 3 + 1, Option.none⟩ (.int .u64 P1)).setCell ⟨BB, i * 3 + 2, Option.none⟩ (.int .i64 L1)).cell? ⟨BB, q, Option.none⟩ = wx.cell? ⟨BB, q, Option.none⟩ := fun q h0 h1 h2 => by
    rw [World.cell?_setCell_other _ _ _ _ (fun e => h2 (congrArg Addr.off e).symm), World.cell?_setCell_other _ _ _ _ (fun e => h1 (congrArg Addr.off e).symm), World.cell?_setCell_other _ _ _ _ (fun e => h0 (congrArg Addr.off e).symm)]
  have c0 := h.b0 i hi; have c1 := h.b1 i hi; have c2 := h.b2 i hi
  refine ⟨(g _ n4).trans h.s4, (g _ n4).trans h.s5, (g _ n4).trans h.s6, ?_, ?_, ?_, fun j => by simpa using h.g0 j, fun j hj => (g _ (Ne.symm n6)).trans (h.rc j hj), fun j => by simpa using h.rf j, ?_, ⟨n1, n2, n3, n4, n5, n6, by simpa using n7, by simpa using n8⟩, ((h.low.setCell n2 _).setCell n2 _).setCell n2 _⟩
  · intro j hj
    unfold upd
    by_cases hji : j = i
    · subst hji; rw [if_pos rfl]; simp [go_sem, c0, c1, c2]
    · rw [if_neg hji]; exact (g' _ (by omega) (by omega) (by omega)).trans (h.b0 j hj)
  · intro j hj
    unfold upd
    by_cases hji : j = i
    · subst hji; rw [if_pos rfl]; simp [go_sem, c0, c1, c2]
    · rw [if_neg hji]; exact (g' _ (by omega) (by omega) (by omega)).trans (h.b1 j hj)
  · intro j hj
    unfold upd
    by_cases hji : j = i
    · subst hji; rw [if_pos rfl]; simp [go_sem, c0, c1, c2]
    · rw [if_neg hji]; exact (g' _ (by omega) (by omega) (by omega)).trans (h.b2 j hj)
  · intro j hj B hB
    obtain ⟨q1, ⟨m, o, e, d, f, q2, q3⟩, q4, q5, q6⟩ := h.pr j hj B hB
    exact ⟨(g _ q4).trans q1, ⟨m, o, e, d, f, ((q2.set (Ne.symm q4) _).set (Ne.symm q4) _).set (Ne.symm q4) _, q3⟩, q4, q5, q6⟩

theorem ShS.setR (h : ShS w0 S BB RB n bt bp bl P own OK wx) (i : Nat) (hi : i < n) (B : Nat) (hc : wx.cell? ⟨B, 0, Option.none⟩ = some (.float .f64 (own i))) {m o e d f : Int} (hr : RateAt B 1 m o e d f wx) (hok : OK m o e d f) (hB1 : B ≠ BB) (hB2 : B ≠ RB) (hB3 : w0.heap.size ≤ B) :
    ShS w0 S BB RB n bt bp bl (upd P i (some B)) own OK (wx.setCell ⟨RB, i, Option.none⟩ (.pointer (some ⟨B, 0, Option.none⟩))) := by
  obtain ⟨n1, n2, n3, n4, n5, n6, n7, n8⟩ := h.ne
  have g : ∀ (q : Addr), q.block ≠ RB → (wx.setCell ⟨RB, i, Option.none⟩ (.pointer (some ⟨B, 0, Option.none⟩))).cell? q = wx.cell? q := fun q hq => World.cell?_setCell_other _ _ _ _ (fun e => hq (by rw [← e]))
  refine ⟨(g _ n5).trans h.s4, (g _ n5).trans h.s5, (g _ n5).trans h.s6, fun j hj => (g _ n6).trans (h.b0 j hj), fun j hj => (g _ n6).trans (h.b1 j hj), fun j hj => (g _ n6).trans (h.b2 j hj), fun j => by simpa using h.g0 j, ?_, fun j => by simpa using h.rf j, ?_, ⟨n1, n2, n3, n4, n5, n6, by simpa using n7, by simpa using n8⟩, h.low.setCell n3 _⟩
  · intro j hj
    unfold upd
    by_cases hji : j = i
    · subst hji; rw [if_pos rfl]; exact World.cell?_setCell_same _ _ _ (h.rc j hj)
    · rw [if_neg hji]; exact (World.cell?_setCell_other _ _ _ _ (fun e => hji (congrArg Addr.off e).symm)).trans (h.rc j hj)
  · intro j hj C hC
    unfold upd at hC
    by_cases hji : j = i
    · subst hji
      rw [if_pos rfl] at hC
      obtain rfl := Option.some.inj hC
      exact ⟨(g _ hB2).trans hc, ⟨m, o, e, d, f, hr.set (Ne.symm hB2) _, hok⟩, hB1, hB2, hB3⟩
    · rw [if_neg hji] at hC
      obtain ⟨q1, ⟨m, o, e, d, f, q2, q3⟩, q4, q5, q6⟩ := h.pr j hj C hC
      exact ⟨(g _ q5).trans q1, ⟨m, o, e, d, f, q2.set (Ne.symm q5) _, q3⟩, q4, q5, q6⟩
end

end Go.Proofs.Qxb6616096aDoor
