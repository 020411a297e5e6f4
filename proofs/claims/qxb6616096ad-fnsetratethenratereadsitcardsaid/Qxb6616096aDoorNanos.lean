import Derived.Test.Qxb6616096aDoorRem
import Derived.Test.Qxb6616096aDoorWide3
namespace Go.Proofs.Qxb6616096aDoor
open Go.RowKit
set_option linter.unusedVariables false
set_option linter.unusedSimpArgs false
set_option maxRecDepth 100000
open Pl

/-- Two boxed rates, held. -/
structure Held2 (w : World) (m o e d f m' o' e' d' f' : Int) (w' : World) : Prop where
  c0 : w'.cell? ⟨w.heap.size, 0, Option.none⟩ = some (.int .u64 m)
  c1 : w'.cell? ⟨w.heap.size, 1, Option.none⟩ = some (.int .u64 o)
  c2 : w'.cell? ⟨w.heap.size, 2, Option.none⟩ = some (.int .i64 e)
  c3 : w'.cell? ⟨w.heap.size, 3, Option.none⟩ = some (.int .u64 d)
  c4 : w'.cell? ⟨w.heap.size, 4, Option.none⟩ = some (.int .u64 f)
  t0 : w'.cell? ⟨w.heap.size + 1, 0, Option.none⟩ = some (.int .u64 m')
  t1 : w'.cell? ⟨w.heap.size + 1, 1, Option.none⟩ = some (.int .u64 o')
  t2 : w'.cell? ⟨w.heap.size + 1, 2, Option.none⟩ = some (.int .i64 e')
  t3 : w'.cell? ⟨w.heap.size + 1, 3, Option.none⟩ = some (.int .u64 d')
  t4 : w'.cell? ⟨w.heap.size + 1, 4, Option.none⟩ = some (.int .u64 f')
  low : Below w.heap.size w w'

theorem Held2.below {w w' w'' : World} {m o e d f m' o' e' d' f' : Int} (h : Held2 w m o e d f m' o' e' d' f' w') (hb : Below w'.heap.size w' w'') : Held2 w m o e d f m' o' e' d' f' w'' := by
  have l0 := World.block_lt_of_cell? w' _ h.c0
  have l1 := World.block_lt_of_cell? w' _ h.t0
  exact ⟨(hb.cell (p := ⟨w.heap.size, 0, Option.none⟩) l0).trans h.c0, (hb.cell (p := ⟨w.heap.size, 1, Option.none⟩) l0).trans h.c1, (hb.cell (p := ⟨w.heap.size, 2, Option.none⟩) l0).trans h.c2,
    (hb.cell (p := ⟨w.heap.size, 3, Option.none⟩) l0).trans h.c3, (hb.cell (p := ⟨w.heap.size, 4, Option.none⟩) l0).trans h.c4,
    (hb.cell (p := ⟨w.heap.size + 1, 0, Option.none⟩) l1).trans h.t0, (hb.cell (p := ⟨w.heap.size + 1, 1, Option.none⟩) l1).trans h.t1, (hb.cell (p := ⟨w.heap.size + 1, 2, Option.none⟩) l1).trans h.t2,
    (hb.cell (p := ⟨w.heap.size + 1, 3, Option.none⟩) l1).trans h.t3, (hb.cell (p := ⟨w.heap.size + 1, 4, Option.none⟩) l1).trans h.t4, h.low.trans (hb.mono h.low.size)⟩

theorem Held2.set {w w' : World} {m o e d f m' o' e' d' f' : Int} (h : Held2 w m o e d f m' o' e' d' f' w') (p : Addr) (v : Value) (hp : w.heap.size + 2 ≤ p.block) : Held2 w m o e d f m' o' e' d' f' (w'.setCell p v) := by
  have n0 : p.block ≠ w.heap.size := by omega
  have n1 : p.block ≠ w.heap.size + 1 := by omega
  exact ⟨(World.cell?_setCell_far _ _ _ _ n0).trans h.c0, (World.cell?_setCell_far _ _ _ _ n0).trans h.c1, (World.cell?_setCell_far _ _ _ _ n0).trans h.c2, (World.cell?_setCell_far _ _ _ _ n0).trans h.c3, (World.cell?_setCell_far _ _ _ _ n0).trans h.c4,
    (World.cell?_setCell_far _ _ _ _ n1).trans h.t0, (World.cell?_setCell_far _ _ _ _ n1).trans h.t1, (World.cell?_setCell_far _ _ _ _ n1).trans h.t2, (World.cell?_setCell_far _ _ _ _ n1).trans h.t3, (World.cell?_setCell_far _ _ _ _ n1).trans h.t4, h.low.setCell (by omega) _⟩

theorem Held2.drew {w w' : World} {m o e d f m' o' e' d' f' : Int} (h : Held2 w m o e d f m' o' e' d' f' w') : Held2 w m o e d f m' o' e' d' f' w'.drew := ⟨h.c0, h.c1, h.c2, h.c3, h.c4, h.t0, h.t1, h.t2, h.t3, h.t4, h.low.drew⟩

/-- Three words, exact. -/
structure At3 (B : Nat) (x y z : Int) (w' : World) : Prop where
  a0 : w'.cell? ⟨B, 0, Option.none⟩ = some (.int .u64 x)
  a1 : w'.cell? ⟨B, 1, Option.none⟩ = some (.int .u64 y)
  a2 : w'.cell? ⟨B, 2, Option.none⟩ = some (.int .u64 z)
  f0 : w'.frozen? ⟨B, 0, Option.none⟩ = false
  f1 : w'.frozen? ⟨B, 1, Option.none⟩ = false
  f2 : w'.frozen? ⟨B, 2, Option.none⟩ = false

theorem At3.below {B : Nat} {x y z : Int} {w' w'' : World} (h : At3 B x y z w') (hb : Below w'.heap.size w' w'') : At3 B x y z w'' := by
  have l0 := World.block_lt_of_cell? w' _ h.a0
  exact ⟨(hb.cell (p := ⟨B, 0, Option.none⟩) l0).trans h.a0, (hb.cell (p := ⟨B, 1, Option.none⟩) l0).trans h.a1, (hb.cell (p := ⟨B, 2, Option.none⟩) l0).trans h.a2,
    (hb.frozen (p := ⟨B, 0, Option.none⟩) l0).trans h.f0, (hb.frozen (p := ⟨B, 1, Option.none⟩) l0).trans h.f1, (hb.frozen (p := ⟨B, 2, Option.none⟩) l0).trans h.f2⟩
theorem At3.drew {B : Nat} {x y z : Int} {w' : World} (h : At3 B x y z w') : At3 B x y z w'.drew := ⟨h.a0, h.a1, h.a2, h.f0, h.f1, h.f2⟩

theorem At3.set1 {B : Nat} {x y z : Int} {w' : World} (h : At3 B x y z w') (v : Int) : At3 B x v z (w'.setCell ⟨B, 1, Option.none⟩ (.int .u64 v)) :=
  ⟨(World.cell?_setCell_other _ _ _ _ (by simp)).trans h.a0, World.cell?_setCell_same _ _ _ h.a1, (World.cell?_setCell_other _ _ _ _ (by simp)).trans h.a2, by rw [World.frozen?_setCell]; exact h.f0, by rw [World.frozen?_setCell]; exact h.f1, by rw [World.frozen?_setCell]; exact h.f2⟩
theorem At3.set2 {B : Nat} {x y z : Int} {w' : World} (h : At3 B x y z w') (v : Int) : At3 B x y v (w'.setCell ⟨B, 2, Option.none⟩ (.int .u64 v)) :=
  ⟨(World.cell?_setCell_other _ _ _ _ (by simp)).trans h.a0, (World.cell?_setCell_other _ _ _ _ (by simp)).trans h.a1, World.cell?_setCell_same _ _ _ h.a2, by rw [World.frozen?_setCell]; exact h.f0, by rw [World.frozen?_setCell]; exact h.f1, by rw [World.frozen?_setCell]; exact h.f2⟩
theorem At3.set0 {B : Nat} {x y z : Int} {w' : World} (h : At3 B x y z w') (v : Int) : At3 B v y z (w'.setCell ⟨B, 0, Option.none⟩ (.int .u64 v)) :=
  ⟨World.cell?_setCell_same _ _ _ h.a0, (World.cell?_setCell_other _ _ _ _ (by simp)).trans h.a1, (World.cell?_setCell_other _ _ _ _ (by simp)).trans h.a2, by rw [World.frozen?_setCell]; exact h.f0, by rw [World.frozen?_setCell]; exact h.f1, by rw [World.frozen?_setCell]; exact h.f2⟩

theorem nanos_new (m o e d f m' o' e' d' f' p : Int) (w : World) :
    At3 (w.heap.size + 1 + 1) 0 0 p (((w.alloc (.cells #[.int .u64 m, .int .u64 o, .int .i64 e, .int .u64 d, .int .u64 f] 54)).alloc (.cells #[.int .u64 m', .int .u64 o', .int .i64 e', .int .u64 d', .int .u64 f'] 54)).alloc (.cells #[.int .u64 0, .int .u64 0, .int .u64 p] 139)) ∧
    Held2 w m o e d f m' o' e' d' f' (((w.alloc (.cells #[.int .u64 m, .int .u64 o, .int .i64 e, .int .u64 d, .int .u64 f] 54)).alloc (.cells #[.int .u64 m', .int .u64 o', .int .i64 e', .int .u64 d', .int .u64 f'] 54)).alloc (.cells #[.int .u64 0, .int .u64 0, .int .u64 p] 139)) :=
  ⟨⟨by simp [go_sem], by simp [go_sem], by simp [go_sem], by simp [go_sem], by simp [go_sem], by simp [go_sem]⟩,
   ⟨by simp [go_sem], by simp [go_sem], by simp [go_sem], by simp [go_sem], by simp [go_sem], by simp [go_sem], by simp [go_sem], by simp [go_sem], by simp [go_sem], by simp [go_sem], (((Below.refl _ _).alloc (Nat.le_refl _) _).alloc (by simp) _).alloc (by simp; omega) _⟩⟩

/-- A new wide variable behind what is held. -/
theorem At3.new (x y z : Int) (w' : World) : At3 w'.heap.size x y z (w'.alloc (.cells #[.int .u64 x, .int .u64 y, .int .u64 z] 139)) :=
  ⟨by simp [go_sem], by simp [go_sem], by simp [go_sem], by simp [go_sem], by simp [go_sem], by simp [go_sem]⟩
theorem below_alloc (w' : World) (o : Obj) : Below w'.heap.size w' (w'.alloc o) := (Below.refl _ _).alloc (Nat.le_refl _) _


/-- The words of a wide number. -/
def W3 (Z : Prop) (x y z : Int) : Prop := Word x ∧ Word y ∧ Word z ∧ (Z → x = 0 ∧ y = 0 ∧ z = 0)

/-- What is held at the two divisions. -/
structure HeldD (w : World) (m o e d f m' o' e' d' f' : Int) (B : Nat) (q0 q1 q2 : Int) (w' : World) : Prop where
  hh : Held2 w m o e d f m' o' e' d' f' w'
  ha : At3 B q0 q1 q2 w'
def YOK (y : Int) : Prop := 0 < y ∧ y < 18446744073709551616
def LikeT (Z : Prop) (a b c : Int) : Prop := Word a ∧ Word b ∧ Word c ∧ (Z → a = 0 ∧ b = 0 ∧ c = 0)

theorem HeldD.alloc {w : World} {m o e d f m' o' e' d' f' : Int} {B : Nat} {q0 q1 q2 : Int} {w' : World} (h : HeldD w m o e d f m' o' e' d' f' B q0 q1 q2 w') (x : Obj) : HeldD w m o e d f m' o' e' d' f' B q0 q1 q2 (w'.alloc x) :=
  ⟨h.hh.below (below_alloc _ _), h.ha.below (below_alloc _ _)⟩

/-- The variable for the quotient, wherever it was made. -/
def NewAt (w : World) (D : Nat) (w' : World) : Prop := At3 D 0 0 0 w' ∧ w.heap.size ≤ D

theorem newAt_new {w : World} {m o e d f m' o' e' d' f' : Int} {B : Nat} {q0 q1 q2 : Int} {w' : World} (h : HeldD w m o e d f m' o' e' d' f' B q0 q1 q2 w') : NewAt w w'.heap.size (w'.alloc (.cells #[.int .u64 0, .int .u64 0, .int .u64 0] 139)) :=
  ⟨At3.new 0 0 0 w', h.hh.low.size⟩

theorem relA {w w5 : World} {x1 x2 x3 : Int} {Z : Prop} (hl : Below w.heap.size w w5) (h : LikeT Z x1 x2 x3) :
    ∃ (D : Nat) (d0 d1 d2 : Int), Value.pointer (some ⟨w5.heap.size, 0, Option.none⟩) = Value.pointer (some ⟨D, 0, Option.none⟩) ∧ At3 D d0 d1 d2 (w5.alloc (.cells #[.int .u64 x1, .int .u64 x2, .int .u64 x3] 139)) ∧ Aside (Below w.heap.size w (w5.alloc (.cells #[.int .u64 x1, .int .u64 x2, .int .u64 x3] 139)) ∧ W3 Z d0 d1 d2) :=
  ⟨_, x1, x2, x3, rfl, At3.new x1 x2 x3 w5, hl.alloc hl.size _, h⟩
theorem relB {w w5 : World} {x1 x2 x3 : Int} {Z : Prop} {E : Nat} (k : NewAt w E w5) (hl : Below w.heap.size w w5) (h : LikeT Z x1 x2 x3) :
    ∃ (D : Nat) (d0 d1 d2 : Int), Value.pointer (some ⟨E, 0, Option.none⟩) = Value.pointer (some ⟨D, 0, Option.none⟩) ∧ At3 D d0 d1 d2 (((w5.setCell ⟨E, 0, Option.none⟩ (.int .u64 x1)).setCell ⟨E, 1, Option.none⟩ (.int .u64 x2)).setCell ⟨E, 2, Option.none⟩ (.int .u64 x3)) ∧ Aside (Below w.heap.size w (((w5.setCell ⟨E, 0, Option.none⟩ (.int .u64 x1)).setCell ⟨E, 1, Option.none⟩ (.int .u64 x2)).setCell ⟨E, 2, Option.none⟩ (.int .u64 x3)) ∧ W3 Z d0 d1 d2) :=
  ⟨_, x1, x2, x3, rfl, ((k.1.set0 x1).set1 x2).set2 x3, ((hl.setCell (p := ⟨E, 0, Option.none⟩) k.2 _).setCell (p := ⟨E, 1, Option.none⟩) k.2 _).setCell (p := ⟨E, 2, Option.none⟩) k.2 _, h⟩

theorem div_held {w : World} {m o e d f m' o' e' d' f' : Int} {B : Nat} {q0 q1 q2 : Int} {Z : Prop} (a b c y : Int) (w' : World) (hw : LikeT Z a b c) (hy : YOK y) (h : HeldD w m o e d f m' o' e' d' f' B q0 q1 q2 w') :
    Calls Tryd.prog 65 #[.agg #[.int .u64 a, .int .u64 b, .int .u64 c], .int .u64 y] w' fun e'' w'' => (∃ x1 x2 x3 : Int, e'' = .returned (.agg #[.int .u64 x1, .int .u64 x2, .int .u64 x3]) ∧ LikeT Z x1 x2 x3) ∧ HeldD w m o e d f m' o' e' d' f' B q0 q1 q2 w'' ∧ (∀ D, NewAt w D w' → NewAt w D w'') := by
  have h1 := hy.1; have h2 := hy.2
  obtain ⟨yn, rfl⟩ := Int.eq_ofNat_of_zero_le (show 0 ≤ y by omega)
  refine (wdiv_c a b c yn hw.1 hw.2.1 hw.2.2.1 (by omega) (by omega) w').mono ?_
  rintro e'' w'' ⟨⟨x1, x2, x3, h3, h4, h5, h6, h7⟩, hb⟩
  exact ⟨⟨x1, x2, x3, h3, h4, h5, h6, fun z => h7 (hw.2.2.2 z)⟩, ⟨h.hh.below hb, h.ha.below hb⟩, fun D hD => ⟨hD.1.below hb, hD.2⟩⟩

set_option maxHeartbeats 16000000 in
theorem nanos_c {b m o : Nat} {e : Int} {d f : Nat} {m' o' : Nat} {e' : Int} {d' f' : Nat} {b' : Nat} (h : RateOK b m o e d f) (h' : RateOK b' m' o' e' d' f') (p : Int) (hp : Word p) (w : World) :
    Calls Tryd.prog 50 #[.agg #[.int .u64 (m : Int), .int .u64 (o : Int), .int .i64 e, .int .u64 (d : Int), .int .u64 (f : Int)], .int .u64 p, .agg #[.int .u64 (m' : Int), .int .u64 (o' : Int), .int .i64 e', .int .u64 (d' : Int), .int .u64 (f' : Int)]] w fun e'' w' => RetZ (p = 0) e'' ∧ Below w.heap.size w w' := by
  have he1 := h.e1; have he2 := h.e2; have he1' := h'.e1; have he2' := h'.e2; have ho1 := h.o1; have ho1' := h'.o1; have hm1' := h'.m1
  obtain ⟨ne, hne⟩ : ∃ ne : Int, IntKind.i64.wrap (-e) = ne := ⟨_, rfl⟩
  obtain ⟨s, hs⟩ : ∃ s : Int, max ne 0 = s := ⟨_, rfl⟩
  obtain ⟨ns, hns⟩ : ∃ ns : Int, IntKind.i64.wrap (-s) = ns := ⟨_, rfl⟩
  obtain ⟨sh, hsh⟩ : ∃ sh : Int, IntKind.i64.wrap (ns - e') = sh := ⟨_, rfl⟩
  have HSH : Hid (-5000 < sh ∧ sh < 5000) := by
    rw [IntKind.wrap_i64] at hne hns hsh
    show _ ∧ _
    omega
  have C61 : Hid (d = 0 → ∀ w', Calls Tryd.prog 61 #[.agg #[.int .u64 (m : Int), .int .u64 (o : Int), .int .i64 e, .int .u64 (d : Int), .int .u64 (f : Int)], .int .u64 p] w' fun e' w'' => RetTwoZ (p = 0) e' ∧ Below w'.heap.size w' w'') := fun hd w' => remainder_c h hd p hp w'
  have HP : Hid (Word p) := hp
  have HO : Hid (0 < o ∧ o < 2 ^ 63 ∧ 0 < m' ∧ m' < 2 ^ 53 ∧ 0 < o' ∧ o' < 2 ^ 63) := ⟨h.o0, ho1, h'.m0, hm1', h'.o0, ho1'⟩
  clear h h' hp he1 he2 he1' he2' ho1 ho1' hm1'
  go_enter Tryd.func50, Tryd.ntmps50
  go_upto_if 21 with fail
  go_cut [] (fun wx => ∃ x1 x2 : Int, At3 (w.heap.size + 1 + 1) 0 x1 x2 wx ∧ Held2 w m o e d f m' o' e' d' f' wx ∧ Aside (W3 (p = 0) 0 x1 x2))
  case first =>
    obtain ⟨hA, hH⟩ := nanos_new m o e d f m' o' e' d' f' p w
    by_cases hd : d = 0
    · have kd : ((d : Int) == 0) = true := by rw [beq_iff_eq]; omega
      have C : Hid (∀ w', Calls Tryd.prog 61 #[.agg #[.int .u64 (m : Int), .int .u64 (o : Int), .int .i64 e, .int .u64 (d : Int), .int .u64 (f : Int)], .int .u64 p] w' fun e' w'' => RetTwoZ (p = 0) e' ∧ Below w'.heap.size w' w'') := C61.out hd
      have HA : Hid (At3 (w.heap.size + 1 + 1) 0 0 p (((w.alloc (.cells #[.int .u64 m, .int .u64 o, .int .i64 e, .int .u64 d, .int .u64 f] 54)).alloc (.cells #[.int .u64 m', .int .u64 o', .int .i64 e', .int .u64 d', .int .u64 f'] 54)).alloc (.cells #[.int .u64 0, .int .u64 0, .int .u64 p] 139))) := hA
      have HH : Hid (Held2 w m o e d f m' o' e' d' f' (((w.alloc (.cells #[.int .u64 m, .int .u64 o, .int .i64 e, .int .u64 d, .int .u64 f] 54)).alloc (.cells #[.int .u64 m', .int .u64 o', .int .i64 e', .int .u64 d', .int .u64 f'] 54)).alloc (.cells #[.int .u64 0, .int .u64 0, .int .u64 p] 139))) := hH
      clear hA hH hd
      go_wp2_with fail
      refine (C.out _).mono ?_
      rintro e w1 ⟨⟨x, y, rfl, hx, hy, hz⟩, hb⟩
      have hA1 := HA.out.below hb
      have hH1 := HH.out.below hb
      have a0 := hA1.a0; have a1 := hA1.a1; have a2 := hA1.a2; have f0 := hA1.f0; have f1 := hA1.f1; have f2 := hA1.f2
      have HR : Hid (At3 (w.heap.size + 1 + 1) 0 x y ((w1.setCell ⟨w.heap.size + 1 + 1, 1, Option.none⟩ (.int .u64 x)).setCell ⟨w.heap.size + 1 + 1, 2, Option.none⟩ (.int .u64 y)) ∧ Held2 w m o e d f m' o' e' d' f' ((w1.setCell ⟨w.heap.size + 1 + 1, 1, Option.none⟩ (.int .u64 x)).setCell ⟨w.heap.size + 1 + 1, 2, Option.none⟩ (.int .u64 y)) ∧ Aside (W3 (p = 0) 0 x y)) :=
        ⟨(hA1.set1 x).set2 y, (hH1.set _ _ (by show w.heap.size + 2 ≤ w.heap.size + 1 + 1; omega)).set _ _ (by show w.heap.size + 2 ≤ w.heap.size + 1 + 1; omega), ⟨⟨by omega, by omega⟩, hx, hy, fun z => ⟨rfl, (hz z).1, (hz z).2⟩⟩⟩
      clear hA1 hH1 hb hx hy hz HA HH
      go_wp2_with fail
      go_meet
      case rel => exact ⟨x, y, HR.out.1, HR.out.2.1, HR.out.2.2⟩
    · have kd : ((d : Int) == 0) = false := by rw [beq_eq_false_iff_ne]; omega
      go_wp2_with fail
      go_meet
      case rel => exact ⟨0, p, hA, hH, ⟨⟨by omega, by omega⟩, ⟨by omega, by omega⟩, HP.out, fun z => ⟨rfl, rfl, z⟩⟩⟩
  case rest =>
    obtain ⟨x1, x2, hA, hH, HW⟩ := hcut
    have C62 : Hid (∀ w', Calls Tryd.prog 62 #[.agg #[.int .u64 0, .int .u64 x1, .int .u64 x2], .int .u64 (o' : Int)] w' fun e w'' => Like (x1 = 0 ∧ x2 = 0) e ∧ Below w'.heap.size w' w'') := fun w' => wmul_c 0 x1 x2 o' HW.out.2.1 HW.out.2.2.1 ⟨by omega, by have := HO.out.2.2.2.2.2; omega⟩ w'
    have HH : Hid (Held2 w m o e d f m' o' e' d' f' wc) := hH
    have a0 := hA.a0; have a1 := hA.a1; have a2 := hA.a2; have c1 := hH.c1; have t1 := hH.t1
    clear hA hH C61
    go_upto_region 4 with fail
    go_cut [9, 10] (fun s9 s10 wx => ∃ (B : Nat) (n0 n1 n2 : Int), s9 = .pointer (some ⟨B, 0, Option.none⟩) ∧ s10 = .bool true ∧ At3 B n0 n1 n2 wx ∧ Held2 w m o e d f m' o' e' d' f' wx ∧ Aside (W3 (p = 0) n0 n1 n2 ∧ w.heap.size + 2 ≤ B))
    case first =>
      go_wp2_with fail
      refine (C62.out _).mono ?_
      rintro e w1 ⟨⟨n0, n1, n2, rfl, hx, hy, hz, hzz⟩, hb⟩
      have hH1 := HH.out.below hb
      have HR : Hid (At3 w1.heap.size n0 n1 n2 (w1.alloc (.cells #[.int .u64 n0, .int .u64 n1, .int .u64 n2] 139)) ∧ Held2 w m o e d f m' o' e' d' f' (w1.alloc (.cells #[.int .u64 n0, .int .u64 n1, .int .u64 n2] 139)) ∧ (W3 (p = 0) n0 n1 n2 ∧ w.heap.size + 2 ≤ w1.heap.size)) :=
        ⟨At3.new n0 n1 n2 w1, hH1.below (below_alloc _ _), ⟨hx, hy, hz, fun z => hzz ⟨(HW.out.2.2.2 z).2.1, (HW.out.2.2.2 z).2.2⟩⟩, by have l : w.heap.size + 1 < w1.heap.size := World.block_lt_of_cell? w1 _ hH1.t0; omega⟩
      clear hH1 hb hx hy hz hzz
      go_wp2_with fail
      go_meet
      case rel => exact ⟨_, n0, n1, n2, rfl, rfl, HR.out.1, HR.out.2.1, HR.out.2.2⟩
    case rest =>
      clear a0 a1 a2 c1 t1 HH
      obtain ⟨B, n0, n1, n2, rfl, rfl, hA, hH, HN⟩ := hcut
      have t2 := hH.t2
      have HA : Hid (At3 B n0 n1 n2 wc) := hA
      have HH : Hid (Held2 w m o e d f m' o' e' d' f' wc) := hH
      have a0 := hA.a0; have a1 := hA.a1; have a2 := hA.a2; have f0 := hA.f0; have f1 := hA.f1; have f2 := hA.f2
      clear hA hH
      go_upto_if 40 with fail
      go_cut [10] (fun s10 wx => ∃ (fit : Bool) (q0 q1 q2 : Int), s10 = .bool fit ∧ At3 B q0 q1 q2 wx ∧ Held2 w m o e d f m' o' e' d' f' wx ∧ Aside (W3 (p = 0) q0 q1 q2 ∧ (p = 0 → fit = true)))
      case first =>
        by_cases h0 : 0 ≤ sh
        · have k0 : decide (0 ≤ sh) = true := decide_eq_true h0
          obtain ⟨sn, rfl⟩ := Int.eq_ofNat_of_zero_le h0
          have hsu : IntKind.u64.wrap (sn : Int) = (sn : Int) := by have := HSH.out; rw [IntKind.wrap_u64]; omega
          have C63 : Hid (∀ w', Calls Tryd.prog 63 #[.agg #[.int .u64 n0, .int .u64 n1, .int .u64 n2], .int .u64 (sn : Int)] w' fun e w'' => LikeB (n0 = 0 ∧ n1 = 0 ∧ n2 = 0) e ∧ Below w'.heap.size w' w'') := fun w' => wshl_c n0 n1 n2 sn HN.out.1.1 HN.out.1.2.1 HN.out.1.2.2.1 (by have := HSH.out; omega) w'
          go_wp2_with fail
          refine (C63.out _).mono ?_
          rintro e w1 ⟨⟨q0, q1, q2, ok, rfl, hx, hy, hz, hzz⟩, hb⟩
          have hA1 := HA.out.below hb
          have hH1 := HH.out.below hb
          have b0 := hA1.a0; have b1 := hA1.a1; have b2 := hA1.a2; have g0 := hA1.f0; have g1 := hA1.f1; have g2 := hA1.f2
          have HR : Hid (At3 B q0 q1 q2 (((w1.setCell ⟨B, 0, Option.none⟩ (.int .u64 q0)).setCell ⟨B, 1, Option.none⟩ (.int .u64 q1)).setCell ⟨B, 2, Option.none⟩ (.int .u64 q2)) ∧ Held2 w m o e d f m' o' e' d' f' (((w1.setCell ⟨B, 0, Option.none⟩ (.int .u64 q0)).setCell ⟨B, 1, Option.none⟩ (.int .u64 q1)).setCell ⟨B, 2, Option.none⟩ (.int .u64 q2)) ∧ (W3 (p = 0) q0 q1 q2 ∧ (p = 0 → ok = true))) :=
            ⟨((hA1.set0 q0).set1 q1).set2 q2, ((hH1.set _ _ HN.out.2).set _ _ HN.out.2).set _ _ HN.out.2, ⟨hx, hy, hz, fun z => ⟨(hzz (HN.out.1.2.2.2 z)).1, (hzz (HN.out.1.2.2.2 z)).2.1, (hzz (HN.out.1.2.2.2 z)).2.2.1⟩⟩, fun z => (hzz (HN.out.1.2.2.2 z)).2.2.2⟩
          clear hA1 hH1 hb hx hy hz hzz HA HH
          go_wp2_with fail
          go_meet
          case rel => exact ⟨ok, q0, q1, q2, rfl, HR.out.1, HR.out.2.1, HR.out.2.2⟩
        · have k0 : decide (0 ≤ sh) = false := decide_eq_false h0
          obtain ⟨sn, hsn⟩ : ∃ sn : Nat, IntKind.i64.wrap (-sh) = (sn : Int) := ⟨(-sh).toNat, by have := HSH.out; rw [IntKind.wrap_i64]; omega⟩
          have hsl : sn < 18446744073709551616 := by have := HSH.out; rw [IntKind.wrap_i64] at hsn; omega
          have hsu : IntKind.u64.wrap (sn : Int) = (sn : Int) := by rw [IntKind.wrap_u64]; omega
          have C64 : Hid (∀ w', Calls Tryd.prog 64 #[.agg #[.int .u64 n0, .int .u64 n1, .int .u64 n2], .int .u64 (sn : Int)] w' fun e w'' => Like (n0 = 0 ∧ n1 = 0 ∧ n2 = 0) e ∧ Below w'.heap.size w' w'') := fun w' => wshr_c n0 n1 n2 sn HN.out.1.1 HN.out.1.2.1 HN.out.1.2.2.1 hsl w'
          clear hsl
          go_wp2_with fail
          refine (C64.out _).mono ?_
          rintro e w1 ⟨⟨q0, q1, q2, rfl, hx, hy, hz, hzz⟩, hb⟩
          have hA1 := HA.out.below hb
          have hH1 := HH.out.below hb
          have b0 := hA1.a0; have b1 := hA1.a1; have b2 := hA1.a2; have g0 := hA1.f0; have g1 := hA1.f1; have g2 := hA1.f2
          have HR : Hid (At3 B q0 q1 q2 (((w1.setCell ⟨B, 0, Option.none⟩ (.int .u64 q0)).setCell ⟨B, 1, Option.none⟩ (.int .u64 q1)).setCell ⟨B, 2, Option.none⟩ (.int .u64 q2)) ∧ Held2 w m o e d f m' o' e' d' f' (((w1.setCell ⟨B, 0, Option.none⟩ (.int .u64 q0)).setCell ⟨B, 1, Option.none⟩ (.int .u64 q1)).setCell ⟨B, 2, Option.none⟩ (.int .u64 q2)) ∧ W3 (p = 0) q0 q1 q2) :=
            ⟨((hA1.set0 q0).set1 q1).set2 q2, ((hH1.set _ _ HN.out.2).set _ _ HN.out.2).set _ _ HN.out.2, ⟨hx, hy, hz, fun z => hzz (HN.out.1.2.2.2 z)⟩⟩
          clear hA1 hH1 hb hx hy hz hzz HA HH
          go_wp2_with fail
          go_meet
          case rel => exact ⟨true, q0, q1, q2, rfl, HR.out.1, HR.out.2.1, HR.out.2.2, fun _ => rfl⟩
      case rest =>
        clear a0 a1 a2 f0 f1 f2 t2 HA HH
        obtain ⟨fit, q0, q1, q2, rfl, hA, hH, HQ⟩ := hcut
        have C65 : Hid (∀ (a b c y : Int) w', LikeT (p = 0) a b c → YOK y → HeldD w m o e d f m' o' e' d' f' B q0 q1 q2 w' → Calls Tryd.prog 65 #[.agg #[.int .u64 a, .int .u64 b, .int .u64 c], .int .u64 y] w' fun e'' w'' => (∃ x1 x2 x3 : Int, e'' = .returned (.agg #[.int .u64 x1, .int .u64 x2, .int .u64 x3]) ∧ LikeT (p = 0) x1 x2 x3) ∧ HeldD w m o e d f m' o' e' d' f' B q0 q1 q2 w'' ∧ (∀ D, NewAt w D w' → NewAt w D w'')) := fun a b c y w' h1 h2 h3 => div_held a b c y w' h1 h2 h3
        have WT : LikeT (p = 0) q0 q1 q2 := HQ.out.1
        have YO : YOK (o : Int) := by have := HO.out; exact ⟨by omega, by omega⟩
        have YM : YOK (m' : Int) := by have := HO.out; exact ⟨by omega, by omega⟩
        have HD1 : HeldD w m o e d f m' o' e' d' f' B q0 q1 q2 wc.drew := ⟨hH.drew, hA.drew⟩
        have a0 := hA.a0; have a1 := hA.a1; have a2 := hA.a2; have c1 := hH.c1; have t0 := hH.t0
        have hDa := (HeldD.mk hH hA).alloc (.cells #[.int .u64 0, .int .u64 0, .int .u64 0] 139)
        have b0a := hDa.ha.a0; have b1a := hDa.ha.a1; have b2a := hDa.ha.a2; have g1a := hDa.hh.c1; have g0a := hDa.hh.t0
        clear hDa
        have e0 : wc.heap.size ≠ B := World.new_ne wc _ a0
        have e1 : wc.heap.size ≠ w.heap.size := World.new_ne wc _ c1
        have e2 : wc.heap.size ≠ w.heap.size + 1 := World.new_ne wc _ t0
        clear hA hH
        go_upto_region 9 with fail
        go_cut [12] (fun s12 wx => ∃ (D : Nat) (d0 d1 d2 : Int), s12 = .pointer (some ⟨D, 0, Option.none⟩) ∧ At3 D d0 d1 d2 wx ∧ Aside (Below w.heap.size w wx ∧ W3 (p = 0) d0 d1 d2))
        case first =>
          go_region_with (first | (go_at_call 65; refine (C65.out _ _ _ _ _ (by assumption) (by assumption) (by first | assumption | exact HeldD.alloc (by assumption) _)).mono ?_; rintro e w5 ⟨⟨x1, x2, x3, rfl, hwt⟩, hS5, hNew⟩; have b0 := hS5.ha.a0; have b1 := hS5.ha.a1; have b2 := hS5.ha.a2; have g1 := hS5.hh.c1; have g0 := hS5.hh.t0; have e0 : w5.heap.size ≠ B := World.new_ne w5 _ b0; have e1 : w5.heap.size ≠ w.heap.size := World.new_ne w5 _ g1; have e2 : w5.heap.size ≠ w.heap.size + 1 := World.new_ne w5 _ g0; have hSa := hS5.alloc (.cells #[.int .u64 0, .int .u64 0, .int .u64 0] 139); have b0a := hSa.ha.a0; have b1a := hSa.ha.a1; have b2a := hSa.ha.a2; have g1a := hSa.hh.c1; have g0a := hSa.hh.t0; clear hSa; first | (have kN : NewAt w wc.heap.size w5 := hNew _ (newAt_new HD1); have z0 := kN.1.a0; have z1 := kN.1.a1; have z2 := kN.1.a2; have y0 := kN.1.f0; have y1 := kN.1.f1; have y2 := kN.1.f2) | (have kN := hNew _ (newAt_new (by assumption)); have z0 := kN.1.a0; have z1 := kN.1.a1; have z2 := kN.1.a2; have y0 := kN.1.f0; have y1 := kN.1.f1; have y2 := kN.1.f2) | (have kN := hNew _ (by assumption); have z0 := kN.1.a0; have z1 := kN.1.a1; have z2 := kN.1.a2; have y0 := kN.1.f0; have y1 := kN.1.f1; have y2 := kN.1.f2) | skip; clear hNew))
          all_goals (go_wp2_with fail; go_meet)
          all_goals first
            | with_reducible exact relA hS5.hh.low hwt
            | with_reducible exact relB kN hS5.hh.low hwt
        case rest =>
          obtain ⟨D, d0, d1, d2, rfl, hA, HD⟩ := hcut
          have a0 := hA.a0; have a1 := hA.a1; have a2 := hA.a2
          clear hA HD1 WT YO YM C65
          have HF : Hid (p = 0 → fit = true) := HQ.out.2
          clear HQ
          cases fit
          · go_wp2_with fail
            go_ret
            refine ⟨⟨_, rfl, ⟨by omega, by omega⟩, fun z => ?_⟩, HD.out.1⟩
            have := HF.out z
            cases this
          · by_cases z0 : d0 = 0
            · subst z0
              by_cases z1 : d1 = 0
              · subst z1
                go_wp2_with fail
                go_ret
                exact ⟨⟨d2, rfl, HD.out.2.2.2.1, fun z => (HD.out.2.2.2.2 z).2.2⟩, HD.out.1⟩
              · have k1 : (d1 == 0) = false := by rw [beq_eq_false_iff_ne]; exact z1
                go_wp2_with fail
                go_ret
                exact ⟨⟨_, rfl, ⟨by omega, by omega⟩, fun z => absurd (HD.out.2.2.2.2 z).2.1 z1⟩, HD.out.1⟩
            · have k0 : (d0 == 0) = false := by rw [beq_eq_false_iff_ne]; exact z0
              go_wp2_with fail
              go_ret
              exact ⟨⟨_, rfl, ⟨by omega, by omega⟩, fun z => absurd (HD.out.2.2.2.2 z).1 z0⟩, HD.out.1⟩

end Go.Proofs.Qxb6616096aDoor
