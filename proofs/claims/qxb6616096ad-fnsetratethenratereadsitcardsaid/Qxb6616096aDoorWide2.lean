import Derived.Test.Qxb6616096aDoorWide
import Derived.Deep.AppendLies
namespace Go.Proofs.Qxb6616096aDoor
open Go.RowKit
set_option linter.unusedVariables false
set_option linter.unusedSimpArgs false
set_option maxRecDepth 100000

theorem grownBy.tr {a b c : World} (h : a.grownBy b Option.none) (k : b.grownBy c Option.none) : a.grownBy c Option.none := h.trans k

/-- Three words at a block, free to be written. -/
structure Three (Z : Prop) (B : Nat) (wx : World) : Prop where
  cell : ∀ j, j < 3 → ∃ x, wx.cell? ⟨B, j, Option.none⟩ = some (.int .u64 x) ∧ Word x ∧ (Z → x = 0)
  free : ∀ j, j < 3 → wx.frozen? ⟨B, j, Option.none⟩ = false
  lt : B < wx.heap.size

theorem Three.grown {Z : Prop} {B : Nat} {wx w' : World} (h : Three Z B wx) (hg : wx.grownBy w' Option.none) : Three Z B w' :=
  ⟨fun j hj => by obtain ⟨x, h1, h2⟩ := h.cell j hj; exact ⟨x, by rw [hg.cell_far ⟨B, j, Option.none⟩ h.lt (by simp)]; exact h1, h2⟩,
   fun j hj => by rw [hg.frozen_far ⟨B, j, Option.none⟩ h.lt (by simp)]; exact h.free j hj, Nat.lt_of_lt_of_le h.lt hg.size⟩

theorem Three.set {Z : Prop} {B : Nat} {wx : World} (h : Three Z B wx) (i : Nat) (hi : i < 3) (x : Int) (hx : Word x) (hz : Z → x = 0) : Three Z B (wx.setCell ⟨B, i, Option.none⟩ (.int .u64 x)) :=
  ⟨fun j hj => by
    by_cases e : j = i
    · subst e
      obtain ⟨y, h1, _⟩ := h.cell j hj
      exact ⟨x, World.cell?_setCell_same' wx _ _ (by rw [h1]; rfl), hx, hz⟩
    · obtain ⟨y, h1, h2⟩ := h.cell j hj
      exact ⟨y, by rw [World.cell?_setCell_other _ _ _ _ (by simp <;> omega)]; exact h1, h2⟩,
   fun j hj => by rw [World.frozen?_setCell]; exact h.free j hj, by simpa using h.lt⟩

/-- The world of a shift's loop: the box, the result's variable, the local. -/
structure ShW (Z : Prop) (a b c : Int) (w wx : World) : Prop where
  low : Below w.heap.size w wx
  b0 : wx.cell? ⟨w.heap.size, 0, Option.none⟩ = some (.int .u64 a)
  b1 : wx.cell? ⟨w.heap.size, 1, Option.none⟩ = some (.int .u64 b)
  b2 : wx.cell? ⟨w.heap.size, 2, Option.none⟩ = some (.int .u64 c)
  res : Three True (w.heap.size + 1) wx
  loc : Three Z (w.heap.size + 1 + 1) wx

theorem ShW.grown {Z : Prop} {a b c : Int} {w wx w' : World} (h : ShW Z a b c w wx) (hg : wx.grownBy w' Option.none) : ShW Z a b c w w' := by
  have hsz : w.heap.size < wx.heap.size := by have := h.res.lt; omega
  exact ⟨h.low.grown hg h.low.size (fun k hk => by cases hk), by rw [hg.cell_far _ hsz (by simp)]; exact h.b0, by rw [hg.cell_far _ hsz (by simp)]; exact h.b1, by rw [hg.cell_far _ hsz (by simp)]; exact h.b2, h.res.grown hg, h.loc.grown hg⟩

theorem Three.other {Z : Prop} {B : Nat} {wx : World} (h : Three Z B wx) (p : Addr) (v : Value) (hp : p.block ≠ B) : Three Z B (wx.setCell p v) :=
  ⟨fun j hj => by obtain ⟨x, h1, h2⟩ := h.cell j hj; exact ⟨x, by rw [World.cell?_setCell_far _ _ _ _ hp]; exact h1, h2⟩,
   fun j hj => by rw [World.frozen?_setCell]; exact h.free j hj, by simpa using h.lt⟩

theorem ShW.set {Z : Prop} {a b c : Int} {w wx : World} (h : ShW Z a b c w wx) (i : Nat) (hi : i < 3) (x : Int) (hx : Word x) (hz : Z → x = 0) : ShW Z a b c w (wx.setCell ⟨w.heap.size + 1 + 1, i, Option.none⟩ (.int .u64 x)) :=
  ⟨h.low.setCell (p := ⟨w.heap.size + 1 + 1, i, Option.none⟩) (by show w.heap.size ≤ w.heap.size + 1 + 1; omega) _, by rw [World.cell?_setCell_far _ _ _ _ (by simp <;> omega)]; exact h.b0, by rw [World.cell?_setCell_far _ _ _ _ (by simp <;> omega)]; exact h.b1, by rw [World.cell?_setCell_far _ _ _ _ (by simp <;> omega)]; exact h.b2,
    h.res.other _ _ (by simp), h.loc.set i hi x hx hz⟩

/-- One word of a shift is a word; zero of zeros. -/
theorem shrWord (p q : Int) (k m : Nat) (hp : Word p) (hq : Word q) : Word (bits .or .u64 (p / 2 ^ k) (IntKind.u64.wrap (q * 2 ^ m))) ∧ (p = 0 → q = 0 → bits .or .u64 (p / 2 ^ k) (IntKind.u64.wrap (q * 2 ^ m)) = 0) := by
  obtain ⟨pn, rfl⟩ := Int.eq_ofNat_of_zero_le hp.1
  obtain ⟨qn, rfl⟩ := Int.eq_ofNat_of_zero_le hq.1
  have hp2 := hp.2
  rw [cast_mulpow, cast_divpow, or_nat _ _ (lt_div _ _ (by omega)) (lt_mod _)]
  refine ⟨⟨by omega, ?_⟩, ?_⟩
  · have := Nat.or_lt_two_pow (lt_div pn k (by omega)) (lt_mod (qn * 2 ^ m))
    omega
  · intro h1 h2
    have h1' : pn = 0 := by omega
    have h2' : qn = 0 := by omega
    subst h1' h2'
    simp
theorem shlWord (p q : Int) (k m : Nat) (hp : Word p) (hq : Word q) : Word (bits .or .u64 (IntKind.u64.wrap (p * 2 ^ k)) (q / 2 ^ m)) ∧ (p = 0 → q = 0 → bits .or .u64 (IntKind.u64.wrap (p * 2 ^ k)) (q / 2 ^ m) = 0) := by
  obtain ⟨pn, rfl⟩ := Int.eq_ofNat_of_zero_le hp.1
  obtain ⟨qn, rfl⟩ := Int.eq_ofNat_of_zero_le hq.1
  have hq2 := hq.2
  rw [cast_mulpow, cast_divpow, or_nat _ _ (lt_mod _) (lt_div _ _ (by omega))]
  refine ⟨⟨by omega, ?_⟩, ?_⟩
  · have := Nat.or_lt_two_pow (lt_mod (pn * 2 ^ k)) (lt_div qn m (by omega))
    omega
  · intro h1 h2
    have h1' : pn = 0 := by omega
    have h2' : qn = 0 := by omega
    subst h1' h2'
    simp

theorem shW_new (Z : Prop) (a b c : Int) (w : World) : ShW Z a b c w (((w.alloc (.cells #[.int .u64 a, .int .u64 b, .int .u64 c] 139)).alloc (.cells #[.int .u64 0, .int .u64 0, .int .u64 0] 139)).alloc (.cells #[.int .u64 0, .int .u64 0, .int .u64 0] 139)) := by
  refine ⟨(((Below.refl _ _).alloc (Nat.le_refl _) _).alloc (by simp) _).alloc (by simp; omega) _, by simp [go_sem], by simp [go_sem], by simp [go_sem], ⟨?_, ?_, by simp⟩, ⟨?_, ?_, by simp⟩⟩
  · intro j hj
    refine ⟨0, ?_, ⟨by omega, by omega⟩, fun _ => rfl⟩
    have : j = 0 ∨ j = 1 ∨ j = 2 := by omega
    rcases this with rfl | rfl | rfl <;> simp [go_sem]
  · intro j hj
    have : j = 0 ∨ j = 1 ∨ j = 2 := by omega
    rcases this with rfl | rfl | rfl <;> simp [go_sem]
  · intro j hj
    refine ⟨0, ?_, ⟨by omega, by omega⟩, fun _ => rfl⟩
    have : j = 0 ∨ j = 1 ∨ j = 2 := by omega
    rcases this with rfl | rfl | rfl <;> simp [go_sem]
  · intro j hj
    have : j = 0 ∨ j = 1 ∨ j = 2 := by omega
    rcases this with rfl | rfl | rfl <;> simp [go_sem]

/-- How the shifts end: the local is laid into the result. -/
theorem ShW.done {Z : Prop} {a b c : Int} {w wx : World} (h : ShW Z a b c w wx) : ∃ x y z : Int, wx.cell? ⟨w.heap.size + 1 + 1, 0, Option.none⟩ = some (.int .u64 x) ∧ wx.cell? ⟨w.heap.size + 1 + 1, 1, Option.none⟩ = some (.int .u64 y) ∧ wx.cell? ⟨w.heap.size + 1 + 1, 2, Option.none⟩ = some (.int .u64 z) ∧
    Word x ∧ Word y ∧ Word z ∧ (Z → x = 0 ∧ y = 0 ∧ z = 0) := by
  obtain ⟨x, hx, wx', zx⟩ := h.loc.cell 0 (by omega)
  obtain ⟨y, hy, wy', zy⟩ := h.loc.cell 1 (by omega)
  obtain ⟨z, hz, wz', zz⟩ := h.loc.cell 2 (by omega)
  exact ⟨x, y, z, hx, hy, hz, wx', wy', wz', fun q => ⟨zx q, zy q, zz q⟩⟩

/-- What is held while a word of a shift is made. -/
structure HeldV (w wr : World) (a b c vx : Int) (i : Nat) (w' : World) : Prop where
  b0 : w'.cell? ⟨w.heap.size, 0, Option.none⟩ = some (.int .u64 a)
  b1 : w'.cell? ⟨w.heap.size, 1, Option.none⟩ = some (.int .u64 b)
  b2 : w'.cell? ⟨w.heap.size, 2, Option.none⟩ = some (.int .u64 c)
  v : w'.cell? ⟨w.heap.size + 1 + 1, i, Option.none⟩ = some (.int .u64 vx)
  f : w'.frozen? ⟨w.heap.size + 1 + 1, i, Option.none⟩ = false
  g : wr.grownBy w' Option.none

theorem HeldV.alloc {w wr w' : World} {a b c vx : Int} {i : Nat} (h : HeldV w wr a b c vx i w') (o : Obj) : HeldV w wr a b c vx i (w'.alloc o) := by
  obtain ⟨h1, h2, h3, h4, h5, h6⟩ := h
  have hg := World.grownBy_alloc w' o Option.none
  have l1 := World.block_lt_of_cell? w' _ h1
  have l4 := World.block_lt_of_cell? w' _ h4
  exact ⟨by rw [hg.cell_far ⟨w.heap.size, 0, Option.none⟩ l1 (by simp)]; exact h1, by rw [hg.cell_far ⟨w.heap.size, 1, Option.none⟩ l1 (by simp)]; exact h2, by rw [hg.cell_far ⟨w.heap.size, 2, Option.none⟩ l1 (by simp)]; exact h3, by rw [hg.cell_far ⟨w.heap.size + 1 + 1, i, Option.none⟩ l4 (by simp)]; exact h4, by rw [hg.frozen_far ⟨w.heap.size + 1 + 1, i, Option.none⟩ l4 (by simp)]; exact h5, h6.trans hg⟩

theorem HeldV.drew {w wr w' : World} {a b c vx : Int} {i : Nat} (h : HeldV w wr a b c vx i w') : HeldV w wr a b c vx i w'.drew :=
  ⟨h.b0, h.b1, h.b2, h.v, h.f, ⟨h.g.os, h.g.tape, h.g.output, h.g.size, h.g.block⟩⟩

theorem word_held (w wr : World) (a b c vx : Int) (i : Nat) (x : Int) (w' : World) (h : HeldV w wr a b c vx i w') :
    Calls Tryd.prog 69 #[.agg #[.int .u64 a, .int .u64 b, .int .u64 c], .int .i64 x] w' fun e w'' => e = .returned (.int .u64 (wd a b c x)) ∧ HeldV w wr a b c vx i w'' :=
  (word_c a b c x w').mono fun e w'' ⟨h1, h2⟩ => ⟨h1, by rw [h2]; exact h.alloc _⟩

set_option maxHeartbeats 4000000 in
theorem wshr_c (a b c : Int) (s : Nat) (ha : Word a) (hb : Word b) (hc : Word c) (hs : s < 18446744073709551616) (w : World) :
    Calls Tryd.prog 64 #[.agg #[.int .u64 a, .int .u64 b, .int .u64 c], .int .u64 (s : Int)] w fun e w' => Like (a = 0 ∧ b = 0 ∧ c = 0) e ∧ Below w.heap.size w w' := by
  have HA : Hid (Word a ∧ Word b ∧ Word c) := ⟨ha, hb, hc⟩
  have HN : Aside (ShW (a = 0 ∧ b = 0 ∧ c = 0) a b c w (((w.alloc (.cells #[.int .u64 a, .int .u64 b, .int .u64 c] 139)).alloc (.cells #[.int .u64 0, .int .u64 0, .int .u64 0] 139)).alloc (.cells #[.int .u64 0, .int .u64 0, .int .u64 0] 139))) := shW_new _ a b c w
  clear ha hb hc
  obtain ⟨Z, hZ⟩ : ∃ Z : Prop, Z = (a = 0 ∧ b = 0 ∧ c = 0) := ⟨_, rfl⟩
  rw [← hZ] at HN ⊢
  have HZ : Hid (Z = (a = 0 ∧ b = 0 ∧ c = 0)) := hZ
  clear hZ
  by_cases h192 : s < 192
  · have k1 : decide ((s : Int) < 192) = true := decide_eq_true (by omega)
    obtain ⟨kk, hkk⟩ : ∃ kk : Nat, (s : Int) / 64 = (kk : Int) := ⟨s / 64, by omega⟩
    obtain ⟨r, hr⟩ : ∃ r : Nat, (s : Int) % 64 = (r : Int) := ⟨s % 64, by omega⟩
    have HK : Hid (kk < 3 ∧ r < 64) := by show _ ∧ _; omega
    go_enter Tryd.func64, Tryd.ntmps64
    go_wp2_with fail
    clear h192 k1 hkk hr hs
    go_loopg [8, 16] 3 (fun gk s8 s16 wx => ∃ i : Nat, s16 = .int .i64 i ∧ i ≤ 3 ∧ gk = 3 - i ∧ Aside (ShW Z a b c w wx))
    case atStart => exact ⟨0, rfl, by omega, rfl, HN⟩
    case round =>
      clear HN
      obtain ⟨i, rfl, hi, hg, HW⟩ := hrel
      by_cases hlt : i < 3
      · obtain ⟨vx, hvx', _⟩ := HW.out.loc.cell i hlt
        have hvf := HW.out.loc.free i hlt
        have c0 := HW.out.b0
        have c1 := HW.out.b1
        have c2 := HW.out.b2
        have i1 : (i : Int) < 3 := by omega
        have i2 : (0 : Int) ≤ (i : Int) := by omega
        obtain ⟨I1, hI1⟩ : ∃ I1 : Int, (i : Int) - (kk : Int) = I1 := ⟨_, rfl⟩
        obtain ⟨I2, hI2⟩ : ∃ I2 : Int, I1 - 1 = I2 := ⟨_, rfl⟩
        have w1 : IntKind.i64.wrap I1 = I1 := by have := HK.out; rw [IntKind.wrap_i64]; omega
        have w2 : IntKind.i64.wrap I2 = I2 := by have := HK.out; rw [IntKind.wrap_i64]; omega
        have W1 : Hid (∀ (x : Int) w', HeldV w wr a b c vx i w' → Calls Tryd.prog 69 #[.agg #[.int .u64 a, .int .u64 b, .int .u64 c], .int .i64 x] w' fun e w'' => e = .returned (.int .u64 (wd a b c x)) ∧ HeldV w wr a b c vx i w'') := fun x w' h => word_held w wr a b c vx i x w' h
        have HV1 : HeldV w wr a b c vx i wr.drew := HeldV.drew ⟨c0, c1, c2, hvx', hvf, ⟨rfl, rfl, rfl, Nat.le_refl _, fun _ _ _ => rfl⟩⟩
        go_wp2_with fail
        go_region_with (first | (go_at_call 69; refine (W1.out _ _ (by assumption)).mono ?_; rintro e w5 ⟨rfl, hS5⟩; have f0 := hS5.b0; have f1 := hS5.b1; have f2 := hS5.b2; have f3 := hS5.v; have f4 := hS5.f))
        all_goals
          have HG : Hid (wr.grownBy w5 Option.none) := hS5.g
          clear f0 f1 f2 f3 f4 hS5 c0 c1 c2 hvf hvx' HV1 W1
          go_wp2_with fail
          go_roundg (3 - (i + 1))
        all_goals first
          | omega
          | (refine ⟨i + 1, by go_num, by omega, rfl, ?_⟩
             exact (HW.out.grown HG.out).set i hlt _ (shrWord _ _ _ _ (wd_word HA.out.1 HA.out.2.1 HA.out.2.2 _) (wd_word HA.out.1 HA.out.2.1 HA.out.2.2 _)).1
               (fun z => (shrWord _ _ _ _ (wd_word HA.out.1 HA.out.2.1 HA.out.2.2 _) (wd_word HA.out.1 HA.out.2.1 HA.out.2.2 _)).2 (by rw [HZ.out] at z; obtain ⟨rfl, rfl, rfl⟩ := z; exact wd_zero _) (by rw [HZ.out] at z; obtain ⟨rfl, rfl, rfl⟩ := z; exact wd_zero _)))
      · obtain ⟨x, y, z, e0, e1, e2, hx, hy, hz, hzz⟩ := HW.out.done
        obtain ⟨r0, g0, _⟩ := HW.out.res.cell 0 (by omega)
        obtain ⟨r1, g1, _⟩ := HW.out.res.cell 1 (by omega)
        obtain ⟨r2, g2, _⟩ := HW.out.res.cell 2 (by omega)
        have g3 := HW.out.res.free 0 (by omega)
        have g4 := HW.out.res.free 1 (by omega)
        have g5 := HW.out.res.free 2 (by omega)
        have HL : Hid (Below w.heap.size w wr) := HW.out.low
        have HX : Hid (Word x ∧ Word y ∧ Word z ∧ (Z → x = 0 ∧ y = 0 ∧ z = 0)) := ⟨hx, hy, hz, hzz⟩
        clear hx hy hz hzz
        go_wp2_with fail
        simp [bodyPost, results, Tryd.results64, go_sem, g0, g1, g2]
        exact ⟨⟨x, y, z, rfl, HX.out.1, HX.out.2.1, HX.out.2.2.1, HX.out.2.2.2⟩, Below.setCell (Below.setCell (Below.setCell HL.out (Nat.le_add_right _ _) _) (Nat.le_add_right _ _) _) (Nat.le_add_right _ _) _⟩
  · have k1 : decide ((s : Int) < 192) = false := decide_eq_false (by omega)
    clear HN
    go_enter Tryd.func64, Tryd.ntmps64
    go_wp2_with fail
    simp [bodyPost, results, Tryd.results64, go_sem]
    exact ⟨⟨0, 0, 0, rfl, ⟨by omega, by omega⟩, ⟨by omega, by omega⟩, ⟨by omega, by omega⟩, fun _ => ⟨rfl, rfl, rfl⟩⟩, (((Below.refl _ _).alloc (Nat.le_refl _) _).alloc (by simp) _).alloc (by simp; omega) _⟩

end Go.Proofs.Qxb6616096aDoor
