import Derived.Test.Qxb6616096aDoorAt
namespace Go.Proofs.Qxb6616096aDoor
open Go.RowKit
set_option linter.unusedVariables false
set_option linter.unusedSimpArgs false
set_option maxRecDepth 100000

/-- A world that differs from an earlier one in the cells Q (and in new memory) alone. -/
structure Upd (Q : Addr → Prop) (w w' : World) : Prop where
  size : w.heap.size ≤ w'.heap.size
  cell : ∀ p : Addr, p.block < w.heap.size → ¬ Q p → w'.cell? p = w.cell? p
  froz : ∀ p : Addr, p.block < w.heap.size → w'.frozen? p = w.frozen? p
  low : ∀ N, (∀ p, Q p → N ≤ p.block) → N ≤ w.heap.size → Below N w w'

theorem Upd.refl (Q : Addr → Prop) (w : World) : Upd Q w w := ⟨Nat.le_refl _, fun _ _ _ => rfl, fun _ _ => rfl, fun _ _ _ => Below.refl _ _⟩
theorem Upd.below {Q : Addr → Prop} {a w w' : World} (h : Upd Q a w) (hb : Below w.heap.size w w') : Upd Q a w' :=
  ⟨Nat.le_trans h.size hb.size, fun p hp hq => (hb.cell (Nat.lt_of_lt_of_le hp h.size)).trans (h.cell p hp hq), fun p hp => (hb.frozen (Nat.lt_of_lt_of_le hp h.size)).trans (h.froz p hp),
   fun N h1 h2 => (h.low N h1 h2).trans (hb.mono (Nat.le_trans h2 h.size))⟩
theorem Upd.drew {Q : Addr → Prop} {a w : World} (h : Upd Q a w) : Upd Q a w.drew := ⟨h.size, h.cell, h.froz, fun N h1 h2 => (h.low N h1 h2).drew⟩
theorem Upd.set {Q : Addr → Prop} {a w : World} (h : Upd Q a w) {p : Addr} (hq : Q p) (u : Value) : Upd Q a (w.setCell p u) :=
  ⟨by rw [World.size_setCell]; exact h.size, fun q h1 h2 => (World.cell?_setCell_other w p q u (fun e => h2 (e ▸ hq))).trans (h.cell q h1 h2), fun q h1 => by rw [World.frozen?_setCell]; exact h.froz q h1,
   fun N h1 h2 => (h.low N h1 h2).setCell (h1 p hq) u⟩

/-- The cells that setRate may write. -/
def SetQ (BB RB i : Nat) (p : Addr) : Prop := (p.block = BB ∧ i * 3 ≤ p.off ∧ p.off < i * 3 + 3) ∨ (p.block = RB ∧ p.off = i)

/-- What setRate holds. -/
structure SetH (w : World) (S KB RB BB TB n i : Nat) (p : Option Nat) (burst m o e d f m' o' e' d' f' T P L : Int) (wx : World) : Prop where
  s4 : wx.cell? ⟨S, 4, Option.none⟩ = some (.slice (some ⟨BB, 0, Option.none⟩) n n)
  s5 : wx.cell? ⟨S, 5, Option.none⟩ = some (.slice (some ⟨RB, 0, Option.none⟩) n n)
  s6 : wx.cell? ⟨S, 6, Option.none⟩ = some (.bool true)
  k : wx.cell? ⟨KB, 0, Option.none⟩ = some (.int .i64 burst)
  b0 : wx.cell? ⟨BB, i * 3, Option.none⟩ = some (.int .i64 T)
  b1 : wx.cell? ⟨BB, i * 3 + 1, Option.none⟩ = some (.int .u64 P)
  b2 : wx.cell? ⟨BB, i * 3 + 2, Option.none⟩ = some (.int .i64 L)
  g0 : wx.frozen? ⟨BB, i * 3, Option.none⟩ = false
  g1 : wx.frozen? ⟨BB, i * 3 + 1, Option.none⟩ = false
  g2 : wx.frozen? ⟨BB, i * 3 + 2, Option.none⟩ = false
  rc : wx.cell? ⟨RB, i, Option.none⟩ = some (ptr? p)
  rf : wx.frozen? ⟨RB, i, Option.none⟩ = false
  fr : RateAt (rateLies p KB 0).block (rateLies p KB 0).off m o e d f wx
  tr : RateAt TB 1 m' o' e' d' f' wx
  ap : BB ≠ S ∧ BB ≠ KB ∧ BB ≠ RB ∧ BB ≠ TB ∧ BB ≠ (rateLies p KB 0).block
  up : Upd (SetQ BB RB i) w wx

theorem SetH.below {w : World} {S KB RB BB TB n i : Nat} {p : Option Nat} {burst m o e d f m' o' e' d' f' T P L : Int} {wx w' : World} (h : SetH w S KB RB BB TB n i p burst m o e d f m' o' e' d' f' T P L wx) (hb : Below wx.heap.size wx w') : SetH w S KB RB BB TB n i p burst m o e d f m' o' e' d' f' T P L w' := by
  have l0 := World.block_lt_of_cell? wx _ h.s4
  have l1 := World.block_lt_of_cell? wx _ h.k
  have l2 := World.block_lt_of_cell? wx _ h.b0
  have l3 := World.block_lt_of_cell? wx _ h.rc
  exact ⟨(hb.cell (p := ⟨S, 4, Option.none⟩) l0).trans h.s4, (hb.cell (p := ⟨S, 5, Option.none⟩) l0).trans h.s5, (hb.cell (p := ⟨S, 6, Option.none⟩) l0).trans h.s6, (hb.cell (p := ⟨KB, 0, Option.none⟩) l1).trans h.k,
    (hb.cell (p := ⟨BB, i * 3, Option.none⟩) l2).trans h.b0, (hb.cell (p := ⟨BB, i * 3 + 1, Option.none⟩) l2).trans h.b1, (hb.cell (p := ⟨BB, i * 3 + 2, Option.none⟩) l2).trans h.b2,
    (hb.frozen (p := ⟨BB, i * 3, Option.none⟩) l2).trans h.g0, (hb.frozen (p := ⟨BB, i * 3 + 1, Option.none⟩) l2).trans h.g1, (hb.frozen (p := ⟨BB, i * 3 + 2, Option.none⟩) l2).trans h.g2,
    (hb.cell (p := ⟨RB, i, Option.none⟩) l3).trans h.rc, (hb.frozen (p := ⟨RB, i, Option.none⟩) l3).trans h.rf, h.fr.below hb, h.tr.below hb, h.ap, h.up.below hb⟩

theorem SetH.drew {w : World} {S KB RB BB TB n i : Nat} {p : Option Nat} {burst m o e d f m' o' e' d' f' T P L : Int} {wx : World} (h : SetH w S KB RB BB TB n i p burst m o e d f m' o' e' d' f' T P L wx) : SetH w S KB RB BB TB n i p burst m o e d f m' o' e' d' f' T P L wx.drew :=
  ⟨h.s4, h.s5, h.s6, h.k, h.b0, h.b1, h.b2, h.g0, h.g1, h.g2, h.rc, h.rf, h.fr.drew, h.tr.drew, h.ap, h.up.drew⟩

theorem RateAt.set {B q : Nat} {m o e d f : Int} {w : World} (h : RateAt B q m o e d f w) {p : Addr} (hp : p.block ≠ B) (u : Value) : RateAt B q m o e d f (w.setCell p u) := by
  have g : ∀ j, (w.setCell p u).cell? ⟨B, j, Option.none⟩ = w.cell? ⟨B, j, Option.none⟩ := fun j => World.cell?_setCell_other _ _ _ _ (fun e => hp (by rw [e]))
  exact ⟨(g _).trans h.c0, (g _).trans h.c1, (g _).trans h.c2, (g _).trans h.c3, (g _).trans h.c4⟩

theorem SetH.set {w : World} {S KB RB BB TB n i : Nat} {p : Option Nat} {burst m o e d f m' o' e' d' f' T P L : Int} {wx : World} (h : SetH w S KB RB BB TB n i p burst m o e d f m' o' e' d' f' T P L wx) (T1 P1 L1 : Int) :
    SetH w S KB RB BB TB n i p burst m o e d f m' o' e' d' f' T1 P1 L1 (((wx.setCell ⟨BB, i * 3, Option.none⟩ (.int .i64 T1)).setCell ⟨BB, i * 3 + 1, Option.none⟩ (.int .u64 P1)).setCell ⟨BB, i * 3 + 2, Option.none⟩ (.int .i64 L1)) := by
  obtain ⟨n1, n2, n3, n4, n5⟩ := h.ap
  have g : ∀ (q : Addr), q.block ≠ BB → (((wx.setCell ⟨BB, i * 3, Option.none⟩ (.int .i64 T1)).setCell ⟨BB, i * 3 + 1, Option.none⟩ (.int .u64 P1)).setCell ⟨BB, i * 3 + 2, Option.none⟩ (.int .i64 L1)).cell? q = wx.cell? q := fun q hq => by
    rw [World.cell?_setCell_other _ _ _ _ (fun e => hq (by rw [← e])), World.cell?_setCell_other _ _ _ _ (fun e => hq (by rw [← e])), World.cell?_setCell_other _ _ _ _ (fun e => hq (by rw [← e]))]
  have hb0 := h.b0; have hb1 := h.b1; have hb2 := h.b2
  refine ⟨(g _ (Ne.symm n1)).trans h.s4, (g _ (Ne.symm n1)).trans h.s5, (g _ (Ne.symm n1)).trans h.s6, (g _ (Ne.symm n2)).trans h.k, by simp [go_sem, hb0, hb1, hb2], by simp [go_sem, hb0, hb1, hb2], by simp [go_sem, hb0, hb1, hb2], ?_, ?_, ?_, (g _ (Ne.symm n3)).trans h.rc, ?_,
    ((h.fr.set n5 _).set n5 _).set n5 _, ((h.tr.set n4 _).set n4 _).set n4 _, h.ap, ((h.up.set ?_ _).set ?_ _).set ?_ _⟩
  · simpa using h.g0
  · simpa using h.g1
  · simpa using h.g2
  · simpa using h.rf
  · exact .inl ⟨rfl, by simp, by simp⟩
  · exact .inl ⟨rfl, by simp, by simp⟩
  · exact .inl ⟨rfl, by simp, by simp⟩

theorem SetH.phase {w : World} {S KB RB BB TB n i : Nat} {p : Option Nat} {burst m o e d f m' o' e' d' f' T P L : Int} {wx : World} (h : SetH w S KB RB BB TB n i p burst m o e d f m' o' e' d' f' T P L wx) (P1 : Int) :
    SetH w S KB RB BB TB n i p burst m o e d f m' o' e' d' f' T P1 L (wx.setCell ⟨BB, i * 3 + 1, Option.none⟩ (.int .u64 P1)) := by
  obtain ⟨n1, n2, n3, n4, n5⟩ := h.ap
  have g : ∀ (q : Addr), q.block ≠ BB → (wx.setCell ⟨BB, i * 3 + 1, Option.none⟩ (.int .u64 P1)).cell? q = wx.cell? q := fun q hq => by
    rw [World.cell?_setCell_other _ _ _ _ (fun e => hq (by rw [← e]))]
  have hb0 := h.b0; have hb1 := h.b1; have hb2 := h.b2
  refine ⟨(g _ (Ne.symm n1)).trans h.s4, (g _ (Ne.symm n1)).trans h.s5, (g _ (Ne.symm n1)).trans h.s6, (g _ (Ne.symm n2)).trans h.k, by simp [go_sem, hb0, hb1, hb2], by simp [go_sem, hb0, hb1, hb2], by simp [go_sem, hb0, hb1, hb2], ?_, ?_, ?_, (g _ (Ne.symm n3)).trans h.rc, ?_,
    h.fr.set n5 _, h.tr.set n4 _, h.ap, h.up.set ?_ _⟩
  · simpa using h.g0
  · simpa using h.g1
  · simpa using h.g2
  · simpa using h.rf
  · exact .inl ⟨rfl, by simp, by simp⟩

/-- What setRate leaves. -/
def SetPost (BB RB TB i : Nat) (burst T P L now : Int) (w w' : World) : Prop := ∃ T' P' L' : Int,
  w'.cell? ⟨BB, i * 3, Option.none⟩ = some (.int .i64 T') ∧ w'.cell? ⟨BB, i * 3 + 1, Option.none⟩ = some (.int .u64 P') ∧ w'.cell? ⟨BB, i * 3 + 2, Option.none⟩ = some (.int .i64 L') ∧
  w'.cell? ⟨RB, i, Option.none⟩ = some (.pointer (some ⟨TB, 0, Option.none⟩)) ∧ Upd (SetQ BB RB i) w w' ∧
  ((T = -1 ∧ T' = T ∧ P' = P ∧ L' = L) ∨ (T ≠ -1 ∧ T ≤ T' ∧ T' ≤ burst ∧ L' = (if L < now then now else L) ∧ (T' = burst → P' = 0) ∧ (now ≤ L → T' = T ∧ P' = 0)))

theorem SetH.post {w : World} {S KB RB BB TB n i : Nat} {p : Option Nat} {burst m o e d f m' o' e' d' f' T1 P1 L1 : Int} {wx : World} (h : SetH w S KB RB BB TB n i p burst m o e d f m' o' e' d' f' T1 P1 L1 wx) {T P L now : Int}
    (hr : (T = -1 ∧ T1 = T ∧ P1 = P ∧ L1 = L) ∨ (T ≠ -1 ∧ T ≤ T1 ∧ T1 ≤ burst ∧ L1 = (if L < now then now else L) ∧ (T1 = burst → P1 = 0) ∧ (now ≤ L → T1 = T ∧ P1 = 0))) :
    SetPost BB RB TB i burst T P L now w (wx.setCell ⟨RB, i, Option.none⟩ (.pointer (some ⟨TB, 0, Option.none⟩))) := by
  obtain ⟨n1, n2, n3, n4, n5⟩ := h.ap
  have g : ∀ j, (wx.setCell ⟨RB, i, Option.none⟩ (.pointer (some ⟨TB, 0, Option.none⟩))).cell? ⟨BB, j, Option.none⟩ = wx.cell? ⟨BB, j, Option.none⟩ := fun j => World.cell?_setCell_other _ _ _ _ (fun e => n3 (congrArg Addr.block e).symm)
  exact ⟨T1, P1, L1, (g _).trans h.b0, (g _).trans h.b1, (g _).trans h.b2, World.cell?_setCell_same _ _ _ h.rc, h.up.set (.inr ⟨rfl, rfl⟩) _, hr⟩

end Go.Proofs.Qxb6616096aDoor
