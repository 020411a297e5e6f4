import Derived.Test.Qxb6616096aDoorAccrue
import Derived.Test.Qxb6616096aDoorAt
namespace Go.Proofs.Qxb6616096aDoor
open Go.RowKit
set_option linter.unusedVariables false
set_option linter.unusedSimpArgs false
set_option maxRecDepth 100000
open Pl

/-- What refill holds. -/
structure HeldF (w : World) (KB KO RB RO : Nat) (burst T P L m o e d f : Int) (wx : World) : Prop where
  b0 : wx.cell? ⟨w.heap.size, 0, Option.none⟩ = some (.int .i64 T)
  b1 : wx.cell? ⟨w.heap.size, 1, Option.none⟩ = some (.int .u64 P)
  b2 : wx.cell? ⟨w.heap.size, 2, Option.none⟩ = some (.int .i64 L)
  g0 : wx.frozen? ⟨w.heap.size, 0, Option.none⟩ = false
  g1 : wx.frozen? ⟨w.heap.size, 1, Option.none⟩ = false
  g2 : wx.frozen? ⟨w.heap.size, 2, Option.none⟩ = false
  q0 : wx.cell? ⟨w.heap.size + 1, 0, Option.none⟩ = some (.int .i64 0)
  q1 : wx.cell? ⟨w.heap.size + 1, 1, Option.none⟩ = some (.int .u64 0)
  q2 : wx.cell? ⟨w.heap.size + 1, 2, Option.none⟩ = some (.int .i64 0)
  f0 : wx.frozen? ⟨w.heap.size + 1, 0, Option.none⟩ = false
  f1 : wx.frozen? ⟨w.heap.size + 1, 1, Option.none⟩ = false
  f2 : wx.frozen? ⟨w.heap.size + 1, 2, Option.none⟩ = false
  k : wx.cell? ⟨KB, KO, Option.none⟩ = some (.int .i64 burst)
  r : RateAt RB RO m o e d f wx
  low : Below w.heap.size w wx

theorem HeldF.below {w wx w' : World} {KB KO RB RO : Nat} {burst T P L m o e d f : Int} (h : HeldF w KB KO RB RO burst T P L m o e d f wx) (hb : Below wx.heap.size wx w') : HeldF w KB KO RB RO burst T P L m o e d f w' := by
  have l0 := World.block_lt_of_cell? wx _ h.b0
  have l1 := World.block_lt_of_cell? wx _ h.q0
  have l2 := World.block_lt_of_cell? wx _ h.k
  exact ⟨(hb.cell (p := ⟨w.heap.size, 0, Option.none⟩) l0).trans h.b0, (hb.cell (p := ⟨w.heap.size, 1, Option.none⟩) l0).trans h.b1, (hb.cell (p := ⟨w.heap.size, 2, Option.none⟩) l0).trans h.b2,
    (hb.frozen (p := ⟨w.heap.size, 0, Option.none⟩) l0).trans h.g0, (hb.frozen (p := ⟨w.heap.size, 1, Option.none⟩) l0).trans h.g1, (hb.frozen (p := ⟨w.heap.size, 2, Option.none⟩) l0).trans h.g2,
    (hb.cell (p := ⟨w.heap.size + 1, 0, Option.none⟩) l1).trans h.q0, (hb.cell (p := ⟨w.heap.size + 1, 1, Option.none⟩) l1).trans h.q1, (hb.cell (p := ⟨w.heap.size + 1, 2, Option.none⟩) l1).trans h.q2,
    (hb.frozen (p := ⟨w.heap.size + 1, 0, Option.none⟩) l1).trans h.f0, (hb.frozen (p := ⟨w.heap.size + 1, 1, Option.none⟩) l1).trans h.f1, (hb.frozen (p := ⟨w.heap.size + 1, 2, Option.none⟩) l1).trans h.f2,
    (hb.cell (p := ⟨KB, KO, Option.none⟩) l2).trans h.k, h.r.below hb, h.low.trans (hb.mono h.low.size)⟩

theorem HeldF.drew {w wx : World} {KB KO RB RO : Nat} {burst T P L m o e d f : Int} (h : HeldF w KB KO RB RO burst T P L m o e d f wx) : HeldF w KB KO RB RO burst T P L m o e d f wx.drew :=
  ⟨h.b0, h.b1, h.b2, h.g0, h.g1, h.g2, h.q0, h.q1, h.q2, h.f0, h.f1, h.f2, h.k, h.r.drew, h.low.drew⟩

theorem heldF_new {w : World} {KB KO RB RO : Nat} {burst m o e d f : Int} (T P L : Int) (hk : w.cell? ⟨KB, KO, Option.none⟩ = some (.int .i64 burst)) (hr : RateAt RB RO m o e d f w) :
    HeldF w KB KO RB RO burst T P L m o e d f ((w.alloc (.cells #[.int .i64 T, .int .u64 P, .int .i64 L] 97)).alloc (.cells #[.int .i64 0, .int .u64 0, .int .i64 0] 97)) := by
  have hb : Below w.heap.size w ((w.alloc (.cells #[.int .i64 T, .int .u64 P, .int .i64 L] 97)).alloc (.cells #[.int .i64 0, .int .u64 0, .int .i64 0] 97)) := ((Below.refl _ _).alloc (Nat.le_refl _) _).alloc (by simp) _
  have l2 := World.block_lt_of_cell? w _ hk
  exact ⟨by simp [go_sem], by simp [go_sem], by simp [go_sem], by simp [go_sem], by simp [go_sem], by simp [go_sem], by simp [go_sem], by simp [go_sem], by simp [go_sem], by simp [go_sem], by simp [go_sem], by simp [go_sem],
    (hb.cell (p := ⟨KB, KO, Option.none⟩) l2).trans hk, hr.below hb, hb⟩

set_option maxHeartbeats 4000000 in
theorem refill_c {b m o : Nat} {e : Int} {d f : Nat} (h : RateOK b m o e d f) (T L now : Int) (hT0 : 0 ≤ T) (hT1 : T ≤ (b : Int)) (hL1 : -9223372036854775808 ≤ L) (hL2 : L ≤ 9223372036854775807) (hn1 : -9223372036854775808 ≤ now) (hn2 : now ≤ 9223372036854775807)
    (KB KO RB RO : Nat) (w : World) (hk : w.cell? ⟨KB, KO, Option.none⟩ = some (.int .i64 (b : Int))) (hr : RateAt RB RO m o e d f w) :
    Calls Tryd.prog 35 #[.pointer (some ⟨KB, KO, Option.none⟩), .agg #[.int .i64 T, .int .u64 0, .int .i64 L], .pointer (some ⟨RB, RO, Option.none⟩), .int .i64 now] w fun e'' w' => RetRefill b T L now e'' ∧ Below w.heap.size w w' := by
  have hH := heldF_new T 0 L hk hr
  have HN : Hid (HeldF w KB KO RB RO b T 0 L m o e d f ((w.alloc (.cells #[.int .i64 T, .int .u64 0, .int .i64 L] 97)).alloc (.cells #[.int .i64 0, .int .u64 0, .int .i64 0] 97))) := hH
  have kk := hH.k
  have r0 := hH.r.c0; have r1 := hH.r.c1; have r2 := hH.r.c2; have r3 := hH.r.c3; have r4 := hH.r.c4
  clear hH hk hr
  by_cases hnow : L < now
  case neg =>
    have k1 : decide (L < now) = false := decide_eq_false hnow
    have HR : Hid (RetRefill b T L now (.returned (.agg #[.int .i64 T, .int .u64 0, .int .i64 L]))) := by
      refine ⟨T, 0, by rw [if_neg hnow], by omega, hT1, ⟨by omega, by omega⟩, fun _ => rfl, fun _ => ⟨rfl, rfl⟩⟩
    clear h kk r0 r1 r2 r3 r4
    go_enter Tryd.func35, Tryd.ntmps35
    go_wp2_with fail
    simp [bodyPost, results, Tryd.results35, go_sem]
    exact ⟨HR.out, ((Below.refl _ _).alloc (Nat.le_refl _) _).alloc (by simp) _⟩
  have k1 : decide (L < now) = true := decide_eq_true hnow
  obtain ⟨D1, hD1⟩ : ∃ D1 : Int, IntKind.i64.wrap (now - L) = D1 := ⟨_, rfl⟩
  obtain ⟨el, hel⟩ : ∃ el : Nat, IntKind.u64.wrap D1 = (el : Int) := ⟨(now - L).toNat, by rw [← hD1, IntKind.wrap_i64, IntKind.wrap_u64]; omega⟩
  have hifn : (if L < now then now else L) = now := if_pos hnow
  by_cases hfull : f ≤ el
  · have k2 : decide (f ≤ el) = true := decide_eq_true hfull
    have HR : Hid (RetRefill b T L now (.returned (.agg #[.int .i64 (b : Int), .int .u64 0, .int .i64 now]))) :=
      ⟨b, 0, by rw [hifn], hT1, by omega, ⟨by omega, by omega⟩, fun _ => rfl, fun hh => by omega⟩
    clear h hifn hfull
    go_enter Tryd.func35, Tryd.ntmps35
    go_wp2_with fail
    simp [bodyPost, results, Tryd.results35, go_sem]
    exact ⟨HR.out, ((Below.refl _ _).alloc (Nat.le_refl _) _).alloc (by simp) _⟩
  have k2 : decide (f ≤ el) = false := decide_eq_false hfull
  have C49 : Hid (∀ w', HeldF w KB KO RB RO b T 0 L m o e d f w' → Calls Tryd.prog 49 #[.agg #[.int .u64 (m : Int), .int .u64 (o : Int), .int .i64 e, .int .u64 (d : Int), .int .u64 (f : Int)], .int .u64 0, .int .u64 (el : Int)] w' fun e' w'' => RetTwo e' ∧ HeldF w KB KO RB RO b T 0 L m o e d f w'') :=
    fun w' hH => (accrue_c h el (by omega) w').mono fun e' w'' ⟨h1, h2⟩ => ⟨h1, hH.below h2⟩
  have hb53 := h.b1
  obtain ⟨dd, hdd⟩ : ∃ dd : Int, IntKind.i64.wrap ((b : Int) - T) = dd := ⟨_, rfl⟩
  have HDD : Hid (dd = (b : Int) - T) := by show dd = _; rw [← hdd, IntKind.wrap_i64]; omega
  have hdd' : IntKind.u64.wrap dd = dd := by rw [← hdd, IntKind.wrap_i64, IntKind.wrap_u64]; omega
  have HT : Hid (0 ≤ T ∧ T ≤ (b : Int) ∧ b ≤ 2 ^ 53) := ⟨hT0, hT1, hb53⟩
  have HI : Hid ((if L < now then now else L) = now ∧ ¬ now ≤ L) := ⟨hifn, by omega⟩
  have HN1 := HN.out.drew
  clear h hifn hfull hT0 hT1 hb53 hL1 hL2 hn1 hn2 hnow
  go_enter Tryd.func35, Tryd.ntmps35
  go_upto_region 5 with fail
  go_cut [10, 11] (fun s10 s11 wx => ∃ x y : Int, s10 = .int .u64 x ∧ s11 = .int .u64 y ∧ HeldF w KB KO RB RO b T 0 L m o e d f wx ∧ Aside (Word x ∧ Word y))
  case first =>
    go_region_with (first | (go_at_call 49; refine (C49.out _ (by assumption)).mono ?_; rintro e w5 ⟨⟨x, y, rfl, hx, hy⟩, hS5⟩))
    all_goals (go_wp2_with fail; go_meet)
    all_goals exact ⟨x, y, rfl, rfl, hS5, hx, hy⟩
  case rest =>
    clear kk r0 r1 r2 r3 r4 HN HN1 C49
    obtain ⟨x, y, rfl, rfl, hS, HW⟩ := hcut
    have kk := hS.k
    have b0 := hS.b0; have b1 := hS.b1; have b2 := hS.b2; have g0 := hS.g0; have g1 := hS.g1; have g2 := hS.g2
    have q0 := hS.q0; have q1 := hS.q1; have q2 := hS.q2; have f0 := hS.f0; have f1 := hS.f1; have f2 := hS.f2
    have HL : Hid (Below w.heap.size w wc) := hS.low
    clear hS
    by_cases hw : dd ≤ x
    · have k3 : decide (dd ≤ x) = true := decide_eq_true hw
      have HR : Hid (RetRefill b T L now (.returned (.agg #[.int .i64 (b : Int), .int .u64 0, .int .i64 now]))) := by
        have h1 := HT.out; have h2 := HI.out
        exact ⟨b, 0, by rw [h2.1], h1.2.1, by omega, ⟨by omega, by omega⟩, fun _ => rfl, fun hh => absurd hh h2.2⟩
      go_wp2_with fail
      go_quiet (fail)
      go_wp2_with fail
      simp [bodyPost, results, Tryd.results35, go_sem, q0, q1, q2]
      exact ⟨HR.out, (Below.setCell (Below.setCell (Below.setCell (Below.setCell (Below.setCell (Below.setCell (below_drewN HL.out _) (Nat.le_refl _) _) (Nat.le_refl _) _) (Nat.le_refl _) _) (Nat.le_add_right _ _) _) (Nat.le_add_right _ _) _) (Nat.le_add_right _ _) _)⟩
    · have k3 : decide (dd ≤ x) = false := decide_eq_false hw
      have hx64 : IntKind.i64.wrap x = x := by
        have h1 := HT.out; have h2 := HDD.out; have h3 := HW.out.1
        have := h3.1
        rw [IntKind.wrap_i64]; omega
      obtain ⟨T2, hT2⟩ : ∃ T2 : Int, IntKind.i64.wrap (T + x) = T2 := ⟨_, rfl⟩
      have HR : Hid (RetRefill b T L now (.returned (.agg #[.int .i64 T2, .int .u64 y, .int .i64 now]))) := by
        have h1 := HT.out; have h2 := HI.out; have h3 := HDD.out; have h4 := HW.out
        have h5 := h4.1.1
        have e : T2 = T + x := by rw [← hT2, IntKind.wrap_i64]; omega
        exact ⟨T2, y, by rw [h2.1], by omega, by omega, h4.2, fun hh => by omega, fun hh => absurd hh h2.2⟩
      go_wp2_with fail
      go_quiet (fail)
      go_wp2_with fail
      simp [bodyPost, results, Tryd.results35, go_sem, q0, q1, q2]
      exact ⟨HR.out, (Below.setCell (Below.setCell (Below.setCell (Below.setCell (Below.setCell (Below.setCell (below_drewN HL.out _) (Nat.le_refl _) _) (Nat.le_refl _) _) (Nat.le_refl _) _) (Nat.le_add_right _ _) _) (Nat.le_add_right _ _) _) (Nat.le_add_right _ _) _)⟩

end Go.Proofs.Qxb6616096aDoor
