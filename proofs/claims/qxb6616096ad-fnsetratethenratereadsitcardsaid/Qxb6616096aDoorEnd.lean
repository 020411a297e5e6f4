import Derived.Test.Qxb6616096aDoorAsm
namespace Go.Proofs.Qxb6616096aDoor
open Go.RowKit
set_option linter.unusedVariables false
set_option linter.unusedSimpArgs false
set_option maxRecDepth 100000
open Pl

/-- The state that the law's questions meet. -/
structure EndS (w : World) (L0 A S BB RB n i Bt Bp Bl Bo Bh : Nat) (burst : Int) (init t : Nat) (tok pha las : Nat → Int) (own : Nat → Nat) (has : Nat → Bool) (P : Nat → Option Nat) (T' P' L' : Int) (wx : World) : Prop where
  l0 : wx.cell? ⟨L0, 0, Option.none⟩ = some (.int .i64 burst)
  l3 : wx.cell? ⟨L0, 3, Option.none⟩ = some (.float .f64 init)
  a4 : wx.cell? ⟨A, 4, Option.none⟩ = some (.float .f64 init)
  s4 : wx.cell? ⟨S, 4, Option.none⟩ = some (.slice (some ⟨BB, 0, Option.none⟩) n n)
  s5 : wx.cell? ⟨S, 5, Option.none⟩ = some (.slice (some ⟨RB, 0, Option.none⟩) n n)
  b0 : ∀ j, j < n → j ≠ i → wx.cell? ⟨BB, j * 3, Option.none⟩ = some (.int .i64 (tok j))
  b1 : ∀ j, j < n → j ≠ i → wx.cell? ⟨BB, j * 3 + 1, Option.none⟩ = some (.int .u64 (pha j))
  b2 : ∀ j, j < n → j ≠ i → wx.cell? ⟨BB, j * 3 + 2, Option.none⟩ = some (.int .i64 (las j))
  i0 : wx.cell? ⟨BB, i * 3, Option.none⟩ = some (.int .i64 T')
  i1 : wx.cell? ⟨BB, i * 3 + 1, Option.none⟩ = some (.int .u64 P')
  i2 : wx.cell? ⟨BB, i * 3 + 2, Option.none⟩ = some (.int .i64 L')
  rc : ∀ j, j < n → wx.cell? ⟨RB, j, Option.none⟩ = some (ptr? (P j))
  rv : ∀ j, j < n → (P j = Option.none ∧ j ≠ i ∧ has j = false) ∨ ∃ B, P j = some B ∧ wx.cell? ⟨B, 0, Option.none⟩ = some (.float .f64 (if j = i then t else own j)) ∧ (j ≠ i → has j = true)
  five : Five Bt Bp Bl Bo Bh n tok pha las own has wx
  low : Below w.heap.size w wx

section
variable {w : World} {L0 A S BB RB n i Bt Bp Bl Bo Bh : Nat} {burst : Int} {init t : Nat} {tok pha las : Nat → Int} {own : Nat → Nat} {has : Nat → Bool} {P : Nat → Option Nat} {T' P' L' : Int} {wx w' : World}

theorem EndS.below (h : EndS w L0 A S BB RB n i Bt Bp Bl Bo Bh burst init t tok pha las own has P T' P' L' wx) (hb : Below wx.heap.size wx w') : EndS w L0 A S BB RB n i Bt Bp Bl Bo Bh burst init t tok pha las own has P T' P' L' w' := by
  refine ⟨cell_below hb h.l0, cell_below hb h.l3, cell_below hb h.a4, cell_below hb h.s4, cell_below hb h.s5, fun j h1 h2 => cell_below hb (h.b0 j h1 h2), fun j h1 h2 => cell_below hb (h.b1 j h1 h2), fun j h1 h2 => cell_below hb (h.b2 j h1 h2), cell_below hb h.i0, cell_below hb h.i1, cell_below hb h.i2,
    fun j h1 => cell_below hb (h.rc j h1), fun j h1 => ?_, h.five.below hb, h.low.trans (hb.mono h.low.size)⟩
  rcases h.rv j h1 with h2 | ⟨B, h2, h3, h4⟩
  · exact .inl h2
  · exact .inr ⟨B, h2, cell_below hb h3, h4⟩

theorem EndS.drew (h : EndS w L0 A S BB RB n i Bt Bp Bl Bo Bh burst init t tok pha las own has P T' P' L' wx) : EndS w L0 A S BB RB n i Bt Bp Bl Bo Bh burst init t tok pha las own has P T' P' L' wx.drew :=
  h.below (Below.refl _ _).drew
theorem EndS.drewN (h : EndS w L0 A S BB RB n i Bt Bp Bl Bo Bh burst init t tok pha las own has P T' P' L' wx) (k : Nat) : EndS w L0 A S BB RB n i Bt Bp Bl Bo Bh burst init t tok pha las own has P T' P' L' (wx.drewN k) :=
  h.below (below_drewN (Below.refl _ _) k)

/-- The rate that key j reads. -/
def rvOf (init t i : Nat) (own : Nat → Nat) (has : Nat → Bool) (j : Nat) : Nat := if j = i then t else if has j then own j else init

theorem EndS.rate (h : EndS w L0 A S BB RB n i Bt Bp Bl Bo Bh burst init t tok pha las own has P T' P' L' wx) (hn : n ≤ 65536) (j : Nat) (hj : j < n) :
    Calls Tryd.prog 12 #[.pointer (some ⟨A, 0, Option.none⟩), .pointer (some ⟨S, 0, Option.none⟩), .int .i64 (j : Int)] wx fun e w' => e = .returned (.float .f64 (rvOf init t i own has j)) ∧ wx = w' := by
  refine zzrate_c _ _ _ _ wx (arate_c A S RB n j (P j) (rvOf init t i own has j) init wx hj hn h.a4 h.s5 (h.rc j hj) ?_)
  rcases h.rv j hj with ⟨h1, h2, h3⟩ | ⟨B, h1, h2, h3⟩
  · exact .inl ⟨h1, by unfold rvOf; rw [if_neg h2, h3]; rfl⟩
  · refine .inr ⟨B, h1, ?_⟩
    unfold rvOf
    by_cases hji : j = i
    · rw [if_pos hji] at h2 ⊢; exact h2
    · rw [if_neg hji] at h2 ⊢; rw [h3 hji]; exact h2

theorem EndS.rateNo (h : EndS w L0 A S BB RB n i Bt Bp Bl Bo Bh burst init t tok pha las own has P T' P' L' wx) :
    Calls Tryd.prog 12 #[.pointer (some ⟨A, 0, Option.none⟩), .pointer (some ⟨S, 0, Option.none⟩), .int .i64 (-1)] wx fun e w' => e = .returned (.float .f64 init) ∧ wx = w' :=
  zzrate_c _ _ _ _ wx (arate_no A S init wx h.a4)

theorem EndS.bucket (h : EndS w L0 A S BB RB n i Bt Bp Bl Bo Bh burst init t tok pha las own has P T' P' L' wx) (hn : n ≤ 65536) (j : Nat) (hj : j < n) (hji : j ≠ i) :
    Calls Tryd.prog 13 #[.pointer (some ⟨S, 0, Option.none⟩), .int .i64 (j : Int)] wx fun e w' => e = .returned (.tuple #[.int .i64 (tok j), .int .u64 (pha j), .int .i64 (las j)]) ∧ EndS w L0 A S BB RB n i Bt Bp Bl Bo Bh burst init t tok pha las own has P T' P' L' w' :=
  (zzbucket_c S BB n j _ _ _ wx hj hn h.s4 (h.b0 j hj hji) (h.b1 j hj hji) (h.b2 j hj hji)).mono fun e w' ⟨h1, h2⟩ => ⟨h1, h.below h2⟩

theorem EndS.bucketI (h : EndS w L0 A S BB RB n i Bt Bp Bl Bo Bh burst init t tok pha las own has P T' P' L' wx) (hn : n ≤ 65536) (hi : i < n) :
    Calls Tryd.prog 13 #[.pointer (some ⟨S, 0, Option.none⟩), .int .i64 (i : Int)] wx fun e w' => e = .returned (.tuple #[.int .i64 T', .int .u64 P', .int .i64 L']) ∧ EndS w L0 A S BB RB n i Bt Bp Bl Bo Bh burst init t tok pha las own has P T' P' L' w' :=
  (zzbucket_c S BB n i _ _ _ wx hi hn h.s4 h.i0 h.i1 h.i2).mono fun e w' ⟨h1, h2⟩ => ⟨h1, h.below h2⟩
end

end Go.Proofs.Qxb6616096aDoor
