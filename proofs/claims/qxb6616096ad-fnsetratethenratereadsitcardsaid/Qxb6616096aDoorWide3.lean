import Derived.Test.Qxb6616096aDoorWide2
import Derived.Test.Qxb6616096aDoorEq3
namespace Go.Proofs.Qxb6616096aDoor
open Go.RowKit
set_option linter.unusedVariables false
set_option linter.unusedSimpArgs false
set_option maxRecDepth 100000

/-- Three words and a bool. -/
def LikeB (Z : Prop) (e : Ending) : Prop := ∃ (x y z : Int) (ok : Bool), e = .returned (.tuple #[.agg #[.int .u64 x, .int .u64 y, .int .u64 z], .bool ok]) ∧ Word x ∧ Word y ∧ Word z ∧ (Z → x = 0 ∧ y = 0 ∧ z = 0 ∧ ok = true)

theorem grown_of_below {wx w' : World} (hb : Below wx.heap.size wx w') : wx.grownBy w' Option.none := ⟨hb.os, hb.tape, hb.output, hb.size, fun i hi _ => hb.block i hi⟩

/-- What is held at a left shift's end. -/
structure HeldR (w : World) (a b c x y z r0 r1 r2 : Int) (w' : World) : Prop where
  b0 : w'.cell? ⟨w.heap.size, 0, Option.none⟩ = some (.int .u64 a)
  b1 : w'.cell? ⟨w.heap.size, 1, Option.none⟩ = some (.int .u64 b)
  b2 : w'.cell? ⟨w.heap.size, 2, Option.none⟩ = some (.int .u64 c)
  v0 : w'.cell? ⟨w.heap.size + 1 + 1, 0, Option.none⟩ = some (.int .u64 x)
  v1 : w'.cell? ⟨w.heap.size + 1 + 1, 1, Option.none⟩ = some (.int .u64 y)
  v2 : w'.cell? ⟨w.heap.size + 1 + 1, 2, Option.none⟩ = some (.int .u64 z)
  q0 : w'.cell? ⟨w.heap.size + 1, 0, Option.none⟩ = some (.int .u64 r0)
  q1 : w'.cell? ⟨w.heap.size + 1, 1, Option.none⟩ = some (.int .u64 r1)
  q2 : w'.cell? ⟨w.heap.size + 1, 2, Option.none⟩ = some (.int .u64 r2)
  f0 : w'.frozen? ⟨w.heap.size + 1, 0, Option.none⟩ = false
  f1 : w'.frozen? ⟨w.heap.size + 1, 1, Option.none⟩ = false
  f2 : w'.frozen? ⟨w.heap.size + 1, 2, Option.none⟩ = false
  low : Below w.heap.size w w'

theorem HeldR.drew {w w' : World} {a b c x y z r0 r1 r2 : Int} (h : HeldR w a b c x y z r0 r1 r2 w') : HeldR w a b c x y z r0 r1 r2 w'.drew :=
  ⟨h.b0, h.b1, h.b2, h.v0, h.v1, h.v2, h.q0, h.q1, h.q2, h.f0, h.f1, h.f2, h.low.drew⟩

theorem HeldR.below {w w' w'' : World} {a b c x y z r0 r1 r2 : Int} (h : HeldR w a b c x y z r0 r1 r2 w') (hb : Below w'.heap.size w' w'') : HeldR w a b c x y z r0 r1 r2 w'' := by
  have l0 := World.block_lt_of_cell? w' _ h.b0
  have l1 := World.block_lt_of_cell? w' _ h.q0
  have l2 := World.block_lt_of_cell? w' _ h.v0
  exact ⟨(hb.cell (p := ⟨w.heap.size, 0, Option.none⟩) l0).trans h.b0, (hb.cell (p := ⟨w.heap.size, 1, Option.none⟩) l0).trans h.b1, (hb.cell (p := ⟨w.heap.size, 2, Option.none⟩) l0).trans h.b2,
    (hb.cell (p := ⟨w.heap.size + 1 + 1, 0, Option.none⟩) l2).trans h.v0, (hb.cell (p := ⟨w.heap.size + 1 + 1, 1, Option.none⟩) l2).trans h.v1, (hb.cell (p := ⟨w.heap.size + 1 + 1, 2, Option.none⟩) l2).trans h.v2,
    (hb.cell (p := ⟨w.heap.size + 1, 0, Option.none⟩) l1).trans h.q0, (hb.cell (p := ⟨w.heap.size + 1, 1, Option.none⟩) l1).trans h.q1, (hb.cell (p := ⟨w.heap.size + 1, 2, Option.none⟩) l1).trans h.q2,
    (hb.frozen (p := ⟨w.heap.size + 1, 0, Option.none⟩) l1).trans h.f0, (hb.frozen (p := ⟨w.heap.size + 1, 1, Option.none⟩) l1).trans h.f1, (hb.frozen (p := ⟨w.heap.size + 1, 2, Option.none⟩) l1).trans h.f2,
    h.low.trans (hb.mono h.low.size)⟩

theorem ShW.heldR {Z : Prop} {a b c : Int} {w wx : World} (h : ShW Z a b c w wx) : ∃ x y z r0 r1 r2 : Int, HeldR w a b c x y z r0 r1 r2 wx ∧ Word x ∧ Word y ∧ Word z ∧ (Z → x = 0 ∧ y = 0 ∧ z = 0) := by
  obtain ⟨x, y, z, e0, e1, e2, hx, hy, hz, hzz⟩ := h.done
  obtain ⟨r0, g0, _⟩ := h.res.cell 0 (by omega)
  obtain ⟨r1, g1, _⟩ := h.res.cell 1 (by omega)
  obtain ⟨r2, g2, _⟩ := h.res.cell 2 (by omega)
  exact ⟨x, y, z, r0, r1, r2, ⟨h.b0, h.b1, h.b2, e0, e1, e2, g0, g1, g2, h.res.free 0 (by omega), h.res.free 1 (by omega), h.res.free 2 (by omega), h.low⟩, hx, hy, hz, hzz⟩

theorem shr_held {w : World} {a b c x y z r0 r1 r2 : Int} (hx : Word x) (hy : Word y) (hz : Word z) (s : Nat) (hs : s < 18446744073709551616) (w' : World) (h : HeldR w a b c x y z r0 r1 r2 w') :
    Calls Tryd.prog 64 #[.agg #[.int .u64 x, .int .u64 y, .int .u64 z], .int .u64 (s : Int)] w' fun e w'' => Like (x = 0 ∧ y = 0 ∧ z = 0) e ∧ HeldR w a b c x y z r0 r1 r2 w'' :=
  (wshr_c x y z s hx hy hz hs w').mono fun e w'' ⟨h1, h2⟩ => ⟨h1, h.below h2⟩

set_option maxHeartbeats 4000000 in
theorem wshl_c (a b c : Int) (s : Nat) (ha : Word a) (hb : Word b) (hc : Word c) (hs : s < 18446744073709551616) (w : World) :
    Calls Tryd.prog 63 #[.agg #[.int .u64 a, .int .u64 b, .int .u64 c], .int .u64 (s : Int)] w fun e w' => LikeB (a = 0 ∧ b = 0 ∧ c = 0) e ∧ Below w.heap.size w w' := by
  have HA : Hid (Word a ∧ Word b ∧ Word c) := ⟨ha, hb, hc⟩
  have HN : Aside (ShW (a = 0 ∧ b = 0 ∧ c = 0) a b c w (((w.alloc (.cells #[.int .u64 a, .int .u64 b, .int .u64 c] 139)).alloc (.cells #[.int .u64 0, .int .u64 0, .int .u64 0] 139)).alloc (.cells #[.int .u64 0, .int .u64 0, .int .u64 0] 139))) := shW_new _ a b c w
  have HS : Hid (s < 18446744073709551616) := hs
  clear ha hb hc
  obtain ⟨Z, hZ⟩ : ∃ Z : Prop, Z = (a = 0 ∧ b = 0 ∧ c = 0) := ⟨_, rfl⟩
  rw [← hZ] at HN ⊢
  have HZ : Hid (Z = (a = 0 ∧ b = 0 ∧ c = 0)) := hZ
  clear hZ
  by_cases h192 : s < 192
  · have k1 : decide ((s : Int) < 192) = true := decide_eq_true (by omega)
    obtain ⟨kk, hkk⟩ : ∃ kk : Nat, (s : Int) / 64 = (kk : Int) := ⟨s / 64, by omega⟩
    obtain ⟨r, hr⟩ : ∃ r : Nat, (s : Int) % 64 = (r : Int) := ⟨s % 64, by omega⟩
    have HK : Hid (kk < 3 ∧ r < 64) := by show _ ∧ _; omega
    go_enter Tryd.func63, Tryd.ntmps63
    go_wp2_with fail
    clear h192 k1 hkk hr hs
    go_loopg [9, 17] 3 (fun gk s9 s17 wx => ∃ i : Nat, s17 = .int .i64 i ∧ i ≤ 3 ∧ gk = 3 - i ∧ Aside (ShW Z a b c w wx))
    case atStart => exact ⟨0, rfl, by omega, rfl, HN⟩
    case round =>
      clear HN
      obtain ⟨i, rfl, hi, hg, HW⟩ := hrel
      by_cases hlt : i < 3
      · obtain ⟨vx, hvx', _⟩ := HW.out.loc.cell i hlt
        have hvf := HW.out.loc.free i hlt
        have c0 := HW.out.b0
        have c1 := HW.out.b1
        have c2 := HW.out.b2
        have i1 : (i : Int) < 3 := by omega
        have i2 : (0 : Int) ≤ (i : Int) := by omega
        obtain ⟨I1, hI1⟩ : ∃ I1 : Int, (i : Int) + (kk : Int) = I1 := ⟨_, rfl⟩
        obtain ⟨I2, hI2⟩ : ∃ I2 : Int, I1 + 1 = I2 := ⟨_, rfl⟩
        have w1 : IntKind.i64.wrap I1 = I1 := by have := HK.out; rw [IntKind.wrap_i64]; omega
        have w2 : IntKind.i64.wrap I2 = I2 := by have := HK.out; rw [IntKind.wrap_i64]; omega
        have W1 : Hid (∀ (x : Int) w', HeldV w wr a b c vx i w' → Calls Tryd.prog 69 #[.agg #[.int .u64 a, .int .u64 b, .int .u64 c], .int .i64 x] w' fun e w'' => e = .returned (.int .u64 (wd a b c x)) ∧ HeldV w wr a b c vx i w'') := fun x w' h => word_held w wr a b c vx i x w' h
        have HV1 : HeldV w wr a b c vx i wr.drew := HeldV.drew ⟨c0, c1, c2, hvx', hvf, ⟨rfl, rfl, rfl, Nat.le_refl _, fun _ _ _ => rfl⟩⟩
        go_wp2_with fail
        go_region_with (first | (go_at_call 69; refine (W1.out _ _ (by assumption)).mono ?_; rintro e w5 ⟨rfl, hS5⟩; have f0 := hS5.b0; have f1 := hS5.b1; have f2 := hS5.b2; have f3 := hS5.v; have f4 := hS5.f))
        all_goals
          have HG : Hid (wr.grownBy w5 Option.none) := hS5.g
          clear f0 f1 f2 f3 f4 hS5 c0 c1 c2 hvf hvx' HV1 W1
          go_wp2_with fail
          go_roundg (3 - (i + 1))
        all_goals first
          | omega
          | (refine ⟨i + 1, by go_num, by omega, rfl, ?_⟩
             exact (HW.out.grown HG.out).set i hlt _ (shlWord _ _ _ _ (wd_word HA.out.1 HA.out.2.1 HA.out.2.2 _) (wd_word HA.out.1 HA.out.2.1 HA.out.2.2 _)).1
               (fun z => (shlWord _ _ _ _ (wd_word HA.out.1 HA.out.2.1 HA.out.2.2 _) (wd_word HA.out.1 HA.out.2.1 HA.out.2.2 _)).2 (by rw [HZ.out] at z; obtain ⟨rfl, rfl, rfl⟩ := z; exact wd_zero _) (by rw [HZ.out] at z; obtain ⟨rfl, rfl, rfl⟩ := z; exact wd_zero _)))
      · obtain ⟨x, y, z, r0, r1, r2, hR, hx, hy, hz, hzz⟩ := HW.out.heldR
        have C64 : Hid (∀ w', HeldR w a b c x y z r0 r1 r2 w' → Calls Tryd.prog 64 #[.agg #[.int .u64 x, .int .u64 y, .int .u64 z], .int .u64 (s : Int)] w' fun e w'' => Like (x = 0 ∧ y = 0 ∧ z = 0) e ∧ HeldR w a b c x y z r0 r1 r2 w'') := fun w' h => shr_held hx hy hz s HS.out w' h
        have HX : Hid (Word x ∧ Word y ∧ Word z ∧ (Z → x = 0 ∧ y = 0 ∧ z = 0)) := ⟨hx, hy, hz, hzz⟩
        have HR1 : HeldR w a b c x y z r0 r1 r2 wr.drew := hR.drew
        have b0 := hR.b0; have b1 := hR.b1; have b2 := hR.b2; have v0 := hR.v0; have v1 := hR.v1; have v2 := hR.v2; have q0 := hR.q0; have q1 := hR.q1; have q2 := hR.q2; have f0 := hR.f0; have f1 := hR.f1; have f2 := hR.f2
        clear hx hy hz hzz hR
        go_wp2_with fail
        go_region_with (first | (go_at_call 64; refine (C64.out _ (by assumption)).mono ?_; rintro e w5 ⟨⟨x', y', z', rfl, hlk⟩, hS5⟩; have HLK : Hid (Word x' ∧ Word y' ∧ Word z' ∧ (x = 0 ∧ y = 0 ∧ z = 0 → x' = 0 ∧ y' = 0 ∧ z' = 0)) := hlk; clear hlk; obtain ⟨rb, hrb, hrz⟩ := eql3 x' y' z' a b c; have b0' := hS5.b0; have b1' := hS5.b1; have b2' := hS5.b2; have v0' := hS5.v0; have v1' := hS5.v1; have v2' := hS5.v2; have q0' := hS5.q0; have q1' := hS5.q1; have q2' := hS5.q2; have f0' := hS5.f0; have f1' := hS5.f1; have f2' := hS5.f2))
        all_goals go_wp2_with fail
        all_goals simp [bodyPost, results, Tryd.results63, go_sem, q0', q1', q2']
        all_goals
          refine ⟨⟨x, y, z, rb, rfl, HX.out.1, HX.out.2.1, HX.out.2.2.1, fun hz => ?_⟩, Below.setCell (Below.setCell (Below.setCell hS5.low (Nat.le_add_right _ _) _) (Nat.le_add_right _ _) _) (Nat.le_add_right _ _) _⟩
          obtain ⟨z1, z2, z3⟩ := HX.out.2.2.2 hz
          obtain ⟨z4, z5, z6⟩ := HLK.out.2.2.2 ⟨z1, z2, z3⟩
          rw [HZ.out] at hz
          exact ⟨z1, z2, z3, hrz.out (by rw [z4, hz.1]) (by rw [z5, hz.2.1]) (by rw [z6, hz.2.2])⟩
  · have k1 : decide ((s : Int) < 192) = false := decide_eq_false (by omega)
    go_enter Tryd.func63, Tryd.ntmps63
    go_wp2_with fail
    generalize ((w.alloc (.cells #[.int .u64 a, .int .u64 b, .int .u64 c] 139)).alloc (.cells #[.int .u64 0, .int .u64 0, .int .u64 0] 139)).alloc (.cells #[.int .u64 0, .int .u64 0, .int .u64 0] 139) = wr at *
    obtain ⟨x, y, z, r0, r1, r2, hR, hx, hy, hz, hzz⟩ := HN.out.heldR
    have C64 : Hid (∀ w', HeldR w a b c x y z r0 r1 r2 w' → Calls Tryd.prog 64 #[.agg #[.int .u64 x, .int .u64 y, .int .u64 z], .int .u64 (s : Int)] w' fun e w'' => Like (x = 0 ∧ y = 0 ∧ z = 0) e ∧ HeldR w a b c x y z r0 r1 r2 w'') := fun w' h => shr_held hx hy hz s HS.out w' h
    have HX : Hid (Word x ∧ Word y ∧ Word z ∧ (Z → x = 0 ∧ y = 0 ∧ z = 0)) := ⟨hx, hy, hz, hzz⟩
    have HR1 : HeldR w a b c x y z r0 r1 r2 wr.drew := hR.drew
    have b0 := hR.b0; have b1 := hR.b1; have b2 := hR.b2; have v0 := hR.v0; have v1 := hR.v1; have v2 := hR.v2; have q0 := hR.q0; have q1 := hR.q1; have q2 := hR.q2; have f0 := hR.f0; have f1 := hR.f1; have f2 := hR.f2
    clear hx hy hz hzz hR
    go_region_with (first | (go_at_call 64; refine (C64.out _ (by assumption)).mono ?_; rintro e w5 ⟨⟨x', y', z', rfl, hlk⟩, hS5⟩; have HLK : Hid (Word x' ∧ Word y' ∧ Word z' ∧ (x = 0 ∧ y = 0 ∧ z = 0 → x' = 0 ∧ y' = 0 ∧ z' = 0)) := hlk; clear hlk; obtain ⟨rb, hrb, hrz⟩ := eql3 x' y' z' a b c; have b0' := hS5.b0; have b1' := hS5.b1; have b2' := hS5.b2; have v0' := hS5.v0; have v1' := hS5.v1; have v2' := hS5.v2; have q0' := hS5.q0; have q1' := hS5.q1; have q2' := hS5.q2; have f0' := hS5.f0; have f1' := hS5.f1; have f2' := hS5.f2))
    all_goals go_wp2_with fail
    all_goals simp [bodyPost, results, Tryd.results63, go_sem, q0', q1', q2']
    all_goals
      refine ⟨⟨x, y, z, rb, rfl, HX.out.1, HX.out.2.1, HX.out.2.2.1, fun hz => ?_⟩, Below.setCell (Below.setCell (Below.setCell hS5.low (Nat.le_add_right _ _) _) (Nat.le_add_right _ _) _) (Nat.le_add_right _ _) _⟩
      obtain ⟨z1, z2, z3⟩ := HX.out.2.2.2 hz
      obtain ⟨z4, z5, z6⟩ := HLK.out.2.2.2 ⟨z1, z2, z3⟩
      rw [HZ.out] at hz
      exact ⟨z1, z2, z3, hrz.out (by rw [z4, hz.1]) (by rw [z5, hz.2.1]) (by rw [z6, hz.2.2])⟩

end Go.Proofs.Qxb6616096aDoor
