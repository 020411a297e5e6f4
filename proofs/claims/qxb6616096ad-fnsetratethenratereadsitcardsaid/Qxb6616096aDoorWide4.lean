import Derived.Test.Qxb6616096aDoorWide2
namespace Go.Proofs.Qxb6616096aDoor
open Go.RowKit
set_option linter.unusedVariables false
set_option linter.unusedSimpArgs false
set_option maxRecDepth 100000

theorem grownBy_drewN (w : World) (n : Nat) : w.grownBy (w.drewN n) Option.none := ⟨rfl, rfl, rfl, Nat.le_refl _, fun _ _ _ => rfl⟩

theorem ShW.box {Z : Prop} {a b c : Int} {w wx : World} (h : ShW Z a b c w wx) (i : Nat) (hi : i < 3) : wx.cell? ⟨w.heap.size, i, Option.none⟩ = some (.int .u64 (wd a b c i)) := by
  have : i = 0 ∨ i = 1 ∨ i = 2 := by omega
  rcases this with rfl | rfl | rfl
  · exact h.b0
  · exact h.b1
  · exact h.b2

set_option maxHeartbeats 4000000 in
theorem wdiv_c (a b c : Int) (y : Nat) (ha : Word a) (hb : Word b) (hc : Word c) (hy0 : 0 < y) (hy : y < 2 ^ 64) (w : World) :
    Calls Tryd.prog 65 #[.agg #[.int .u64 a, .int .u64 b, .int .u64 c], .int .u64 (y : Int)] w fun e w' => Like (a = 0 ∧ b = 0 ∧ c = 0) e ∧ Below w.heap.size w w' := by
  have HA : Hid (Word a ∧ Word b ∧ Word c) := ⟨ha, hb, hc⟩
  have HY : Hid (0 < y ∧ y < 2 ^ 64) := ⟨hy0, hy⟩
  have HN : Aside (ShW (a = 0 ∧ b = 0 ∧ c = 0) a b c w (((w.alloc (.cells #[.int .u64 a, .int .u64 b, .int .u64 c] 139)).alloc (.cells #[.int .u64 0, .int .u64 0, .int .u64 0] 139)).alloc (.cells #[.int .u64 0, .int .u64 0, .int .u64 0] 139))) := shW_new _ a b c w
  clear ha hb hc hy0 hy
  obtain ⟨Z, hZ⟩ : ∃ Z : Prop, Z = (a = 0 ∧ b = 0 ∧ c = 0) := ⟨_, rfl⟩
  rw [← hZ] at HN ⊢
  have HZ : Hid (Z = (a = 0 ∧ b = 0 ∧ c = 0)) := hZ
  clear hZ
  go_enter Tryd.func65, Tryd.ntmps65
  go_wp2_with fail
  go_loopg [6, 7, 8] 3 (fun gk s6 s7 s8 wx => ∃ (i : Nat) (rm : Int), s6 = .int .u64 rm ∧ s8 = .int .i64 i ∧ i ≤ 3 ∧ gk = 3 - i ∧ Aside (ShW Z a b c w wx ∧ ∃ rn : Nat, rm = (rn : Int) ∧ rn < y ∧ (Z → rn = 0)))
  case atStart => exact ⟨0, 0, rfl, rfl, by omega, rfl, HN.out, 0, rfl, HY.out.1, fun _ => rfl⟩
  case round =>
    clear HN
    obtain ⟨i, rm, rfl, rfl, hi, hg, HW⟩ := hrel
    by_cases hlt : i < 3
    · obtain ⟨hW, rn, hrn, hrlt, hrz⟩ := HW.out
      obtain ⟨vx, hvx, _⟩ := hW.loc.cell i hlt
      have hvf := hW.loc.free i hlt
      have cb := hW.box i hlt
      have i1 : (i : Int) < 3 := by omega
      have i2 : (0 : Int) ≤ (i : Int) := by omega
      have hw := wd_word HA.out.1 HA.out.2.1 HA.out.2.2 (i : Int)
      obtain ⟨l, hl⟩ := Int.eq_ofNat_of_zero_le hw.1
      have hl64 : l < 2 ^ 64 := by have := hw.2; omega
      have C48 := div64_c rn l y hrlt HY.out.2 hl64
      rw [← hrn, ← hl] at C48
      obtain ⟨lw, hlw⟩ : ∃ lw, lw = wd a b c (i : Int) := ⟨_, rfl⟩
      rw [← hlw] at C48 cb
      obtain ⟨Q, hQ⟩ : ∃ Q : Int, Q = (((rn * 2 ^ 64 + l) / y : Nat) : Int) := ⟨_, rfl⟩
      obtain ⟨R, hR⟩ : ∃ R : Int, R = (((rn * 2 ^ 64 + l) % y : Nat) : Int) := ⟨_, rfl⟩
      rw [← hQ, ← hR] at C48
      have hlz : Z → l = 0 := by
        intro z
        rw [HZ.out] at z
        obtain ⟨rfl, rfl, rfl⟩ := z
        rw [wd_zero] at hl
        omega
      have HQ : Hid (Word Q ∧ (Z → Q = 0) ∧ ∃ rn' : Nat, R = (rn' : Int) ∧ rn' < y ∧ (Z → rn' = 0)) := by
        refine ⟨⟨by rw [hQ]; exact Int.natCast_nonneg _, ?_⟩, ?_, (rn * 2 ^ 64 + l) % y, hR, Nat.mod_lt _ HY.out.1, ?_⟩
        · have : (rn * 2 ^ 64 + l) / y < 2 ^ 64 := (Nat.div_lt_iff_lt_mul HY.out.1).2 (by omega)
          rw [hQ]; exact Int.ofNat_lt.2 this
        · intro z
          rw [hQ, hrz z, hlz z]; simp
        · intro z
          rw [hrz z, hlz z]; simp
      have H48 : Hid (∀ w, Calls Tryd.prog 48 #[.int .u64 rm, .int .u64 lw, .int .u64 (y : Int)] w fun e w' => e = .returned (.tuple #[.int .u64 Q, .int .u64 R]) ∧ ∃ n, w' = w.drewN n) := C48
      have HW2 : Hid (ShW Z a b c w wr) := hW
      clear C48 hQ hR hlz hl hlw hw hrn hrlt hrz hW HW hl64
      go_wp2_with fail
      refine (H48.out _).mono ?_
      rintro e w5 ⟨rfl, n, rfl⟩
      go_wp2_with fail
      go_roundg (3 - (i + 1))
      case measure => omega
      case rel => exact ⟨i + 1, R, rfl, by go_num, by omega, rfl, (HW2.out.grown (grownBy_drewN wr n)).set i hlt Q HQ.out.1 HQ.out.2.1, HQ.out.2.2⟩
    · obtain ⟨hW, _⟩ := HW.out
      obtain ⟨x, yy, z, e0, e1, e2, hx, hy, hz, hzz⟩ := hW.done
      obtain ⟨r0, g0, _⟩ := hW.res.cell 0 (by omega)
      obtain ⟨r1, g1, _⟩ := hW.res.cell 1 (by omega)
      obtain ⟨r2, g2, _⟩ := hW.res.cell 2 (by omega)
      have g3 := hW.res.free 0 (by omega)
      have g4 := hW.res.free 1 (by omega)
      have g5 := hW.res.free 2 (by omega)
      have HL : Hid (Below w.heap.size w wr) := hW.low
      have HX : Hid (Word x ∧ Word yy ∧ Word z ∧ (Z → x = 0 ∧ yy = 0 ∧ z = 0)) := ⟨hx, hy, hz, hzz⟩
      clear hx hy hz hzz hW HW
      go_wp2_with fail
      simp [bodyPost, results, Tryd.results65, go_sem, g0, g1, g2]
      exact ⟨⟨x, yy, z, rfl, HX.out.1, HX.out.2.1, HX.out.2.2.1, HX.out.2.2.2⟩, Below.setCell (Below.setCell (Below.setCell HL.out (Nat.le_add_right _ _) _) (Nat.le_add_right _ _) _) (Nat.le_add_right _ _) _⟩

end Go.Proofs.Qxb6616096aDoor
