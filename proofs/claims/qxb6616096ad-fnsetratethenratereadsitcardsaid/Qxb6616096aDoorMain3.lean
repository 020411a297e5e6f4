import Derived.Test.Qxb6616096aDoorEnd2
import Derived.Test.Qxb6616096aDoorPrem2
import Derived.Test.Qxb6616096aDoorCopy
namespace Go.Proofs.Qxb6616096aDoor
open Go.RowKit
set_option linter.unusedVariables false
set_option linter.unusedSimpArgs false
set_option maxRecDepth 100000
open Pl

/-- The law's own limit, boxed. -/
structure HeldL (w : World) (burst : Int) (mn mx it ic dc : Nat) (per : Int) (wx : World) : Prop where
  c0 : wx.cell? ⟨w.heap.size, 0, Option.none⟩ = some (.int .i64 burst)
  c1 : wx.cell? ⟨w.heap.size, 1, Option.none⟩ = some (.float .f64 mn)
  c2 : wx.cell? ⟨w.heap.size, 2, Option.none⟩ = some (.float .f64 mx)
  c3 : wx.cell? ⟨w.heap.size, 3, Option.none⟩ = some (.float .f64 it)
  c4 : wx.cell? ⟨w.heap.size, 4, Option.none⟩ = some (.float .f64 ic)
  c5 : wx.cell? ⟨w.heap.size, 5, Option.none⟩ = some (.float .f64 dc)
  c6 : wx.cell? ⟨w.heap.size, 6, Option.none⟩ = some (.int .i64 per)
  low : Below w.heap.size w wx

theorem HeldL.below {w wx w' : World} {burst : Int} {mn mx it ic dc : Nat} {per : Int} (h : HeldL w burst mn mx it ic dc per wx) (hb : Below wx.heap.size wx w') : HeldL w burst mn mx it ic dc per w' :=
  ⟨cell_below hb h.c0, cell_below hb h.c1, cell_below hb h.c2, cell_below hb h.c3, cell_below hb h.c4, cell_below hb h.c5, cell_below hb h.c6, h.low.trans (hb.mono h.low.size)⟩

theorem heldL_new (w : World) (burst : Int) (mn mx it ic dc : Nat) (per : Int) : HeldL w burst mn mx it ic dc per (w.alloc (.cells #[.int .i64 burst, .float .f64 mn, .float .f64 mx, .float .f64 it, .float .f64 ic, .float .f64 dc, .int .i64 per] 24)) :=
  ⟨by simp [go_sem], by simp [go_sem], by simp [go_sem], by simp [go_sem], by simp [go_sem], by simp [go_sem], by simp [go_sem], (Below.refl _ _).alloc (Nat.le_refl _) _⟩

set_option maxHeartbeats 4000000 in
theorem main3_w (burst per i now : Int) (mn mx it ic dc t : Nat) (a1 a2 a3 a4 a5 : Option Addr) (l1 l2 l3 l4 l5 c1 c2 c3 c4 c5 : Nat) (tok pha las : Nat → Int) (own : Nat → Nat) (has : Nat → Bool) (w : World)
    (hmn : mn < 2 ^ 64) (hmx : mx < 2 ^ 64) (hit : it < 2 ^ 64) (ht : t < 2 ^ 64) (hown : ∀ j, own j < 2 ^ 64) (hi1 : -9223372036854775808 ≤ i) (hi2 : i ≤ 9223372036854775807) (hper : per ≤ 9223372036854775807) (hn1 : -9223372036854775808 ≤ now) (hn2 : now ≤ 9223372036854775807) (hlas : ∀ j, -9223372036854775808 ≤ las j ∧ las j ≤ 9223372036854775807) (hT : Tab w)
    (C10 : Hid (∀ (b A LB KB Bt Bp Bl Bo Bh n : Nat) (m o e d f : Int) (W : World), n ≤ 65536 → LimOK (b : Int) mn mx it per → (∀ j, j < n → has j = true → mn ≤ own j ∧ own j ≤ mx) → Adap A LB KB (b : Int) mn mx it ic dc per m o e d f W → Five Bt Bp Bl Bo Bh n tok pha las own has W → Tab W →
      Calls Tryd.prog 10 #[.pointer (some ⟨A, 0, Option.none⟩), .slice (some ⟨Bt, 0, Option.none⟩) n n, .slice (some ⟨Bp, 0, Option.none⟩) n n, .slice (some ⟨Bl, 0, Option.none⟩) n n, .slice (some ⟨Bo, 0, Option.none⟩) n n, .slice (some ⟨Bh, 0, Option.none⟩) n n] W fun e' w' => RetShard W n tok pha las own has (OKr b) e' w'))
    (s1 : IsSl w a1 l1 (fun j => .int .i64 (tok j))) (s2 : IsSl w a2 l2 (fun j => .int .u64 (pha j))) (s3 : IsSl w a3 l3 (fun j => .int .i64 (las j))) (s4 : IsSl w a4 l4 (fun j => .float .f64 (own j))) (s5 : IsSl w a5 l5 (fun j => .bool (has j))) :
    Calls Tryd.prog 3 #[.agg #[.int .i64 burst, .float .f64 mn, .float .f64 mx, .float .f64 it, .float .f64 ic, .float .f64 dc, .int .i64 per], .slice a1 l1 c1, .slice a2 l2 c2, .slice a3 l3 c3, .slice a4 l4 c4, .slice a5 l5 c5, .int .i64 i, .float .f64 t, .int .i64 now] w fun e w' => e = .returned (.bool true) ∧ Below w.heap.size w w' := by
  have C7 : Hid (∀ w', Calls Tryd.prog 7 #[.agg #[.int .i64 burst, .float .f64 mn, .float .f64 mx, .float .f64 it, .float .f64 ic, .float .f64 dc, .int .i64 per], .slice a1 l1 c1, .slice a2 l2 c2, .slice a3 l3 c3, .slice a4 l4 c4, .slice a5 l5 c5, .int .i64 i, .float .f64 t, .int .i64 now] w' fun e w'' => RetB e ∧ Below w'.heap.size w' w'') :=
    fun w' => bytes7 burst per i now mn mx it ic dc t a1 a2 a3 a4 a5 l1 l2 l3 l4 l5 c1 c2 c3 c4 c5 s1.small s2.small s3.small s4.small s5.small w'
  have C8 : Hid (∀ w', Below w.heap.size w w' → Calls Tryd.prog 8 #[.agg #[.int .i64 burst, .float .f64 mn, .float .f64 mx, .float .f64 it, .float .f64 ic, .float .f64 dc, .int .i64 per], .slice a1 l1 c1, .slice a2 l2 c2, .slice a3 l3 c3, .slice a4 l4 c4, .slice a5 l5 c5, .int .i64 i, .float .f64 t] w' fun e w'' => RetPrem burst mn mx it per l1 l2 l3 l4 l5 tok pha own has i t e ∧ Below w'.heap.size w' w'') :=
    fun w' hb => prem_c burst per i mn mx it ic dc t a1 a2 a3 a4 a5 l1 l2 l3 l4 l5 c1 c2 c3 c4 c5 tok pha las own has w' hmn hmx hit ht hown hi1 hi2 (s1.below hb) (s2.below hb) (s3.below hb) (s4.below hb) (s5.below hb)
  have H1 : Hid (IsSl w a1 l1 (fun j => .int .i64 (tok j))) := s1
  have H2 : Hid (IsSl w a2 l2 (fun j => .int .u64 (pha j))) := s2
  have H3 : Hid (IsSl w a3 l3 (fun j => .int .i64 (las j))) := s3
  have H4 : Hid (IsSl w a4 l4 (fun j => .float .f64 (own j))) := s4
  have H5 : Hid (IsSl w a5 l5 (fun j => .bool (has j))) := s5
  have HL0 : Hid (HeldL w burst mn mx it ic dc per (w.alloc (.cells #[.int .i64 burst, .float .f64 mn, .float .f64 mx, .float .f64 it, .float .f64 ic, .float .f64 dc, .int .i64 per] 24))) := heldL_new w burst mn mx it ic dc per
  have z1 := s1.small; have z2 := s2.small; have z3 := s3.small; have z4 := s4.small; have z5 := s5.small
  have HX : Hid (per ≤ 9223372036854775807 ∧ -9223372036854775808 ≤ now ∧ now ≤ 9223372036854775807 ∧ (∀ j, -9223372036854775808 ≤ las j ∧ las j ≤ 9223372036854775807) ∧ Tab w) := ⟨hper, hn1, hn2, hlas, hT⟩
  clear s1 s2 s3 s4 s5 hmn hmx hit hown ht hi1 hi2 hper hn1 hn2 hlas hT
  go_enter Tryd.func3, Tryd.ntmps3
  go_wp2_with fail
  refine (C7.out _).mono ?_
  rintro e w1 ⟨⟨x, rfl⟩, hb⟩
  have hL1 := HL0.out.below hb
  clear hb C7 HL0
  cases x
  case false =>
    have HB : Hid (Below w.heap.size w w1) := hL1.low
    clear hL1
    go_wp2_with fail
    go_ret
    exact ⟨rfl, HB.out⟩
  have HL1 : Hid (HeldL w burst mn mx it ic dc per w1) := hL1
  have c0 := hL1.c0; have c1' := hL1.c1; have c2' := hL1.c2; have c3' := hL1.c3; have c4' := hL1.c4; have c5' := hL1.c5; have c6' := hL1.c6
  clear hL1
  by_cases q1 : 65536 < l1
  · have k : decide (65536 < (l1 : Int)) = true := decide_eq_true (by omega)
    go_wp2_with fail
    go_ret
    exact ⟨rfl, HL1.out.low⟩
  have k1 : decide (65536 < (l1 : Int)) = false := decide_eq_false (by omega)
  by_cases q2 : 65536 < l2
  · have k : decide (65536 < (l2 : Int)) = true := decide_eq_true (by omega)
    go_wp2_with fail
    go_ret
    exact ⟨rfl, HL1.out.low⟩
  have k2 : decide (65536 < (l2 : Int)) = false := decide_eq_false (by omega)
  by_cases q3 : 65536 < l3
  · have k : decide (65536 < (l3 : Int)) = true := decide_eq_true (by omega)
    go_wp2_with fail
    go_ret
    exact ⟨rfl, HL1.out.low⟩
  have k3 : decide (65536 < (l3 : Int)) = false := decide_eq_false (by omega)
  by_cases q4 : 65536 < l4
  · have k : decide (65536 < (l4 : Int)) = true := decide_eq_true (by omega)
    go_wp2_with fail
    go_ret
    exact ⟨rfl, HL1.out.low⟩
  have k4 : decide (65536 < (l4 : Int)) = false := decide_eq_false (by omega)
  by_cases q5 : 65536 < l5
  · have k : decide (65536 < (l5 : Int)) = true := decide_eq_true (by omega)
    go_wp2_with fail
    go_ret
    exact ⟨rfl, HL1.out.low⟩
  have k5 : decide (65536 < (l5 : Int)) = false := decide_eq_false (by omega)
  go_wp2_with fail
  · go_ret
    exact ⟨rfl, HL1.out.low⟩
  refine (C8.out _ HL1.out.low).mono ?_
  rintro e w2 ⟨⟨x, rfl, hx⟩, hb⟩
  have HL2 : Hid (HeldL w burst mn mx it ic dc per w2) := HL1.out.below hb
  clear hb C8 HL1 c0 c1' c2' c3' c4' c5' c6'
  cases x
  case false =>
    go_wp2_with fail
    go_ret
    exact ⟨rfl, HL2.out.low⟩
  have HP : Hid (Prem burst mn mx it per l1 l2 l3 l4 l5 tok pha own has i t) := hx rfl
  clear hx k1 k2 k3 k4
  have e2 := HP.out.e2; subst e2
  have e3 := HP.out.e3; subst e3
  have e4 := HP.out.e4; subst e4
  have e5 := HP.out.e5; subst e5
  have hi0 := HP.out.i0
  obtain ⟨k, rfl⟩ := Int.eq_ofNat_of_zero_le hi0
  have HK : Hid (k < l5) := by have := HP.out.i1; show k < l5; omega
  have hl : 0 < l5 := by have := HK.out; omega
  obtain ⟨b, hbb⟩ := Int.eq_ofNat_of_zero_le (show 0 ≤ burst by have := HP.out.lim.b1; omega)
  subst hbb
  clear hi0 q1 q2 q3 q4 z1 z2 z3 z4 z5 k5
  obtain ⟨b1, o1, rfl, g1⟩ := H1.out.at_ hl
  obtain ⟨b2, o2, rfl, g2⟩ := H2.out.at_ hl
  obtain ⟨b3, o3, rfl, g3⟩ := H3.out.at_ hl
  obtain ⟨b4, o4, rfl, g4⟩ := H4.out.at_ hl
  obtain ⟨b5, o5, rfl, g5⟩ := H5.out.at_ hl
  clear H1 H2 H3 H4 H5
  obtain ⟨ob1, W1, m1, p1, u1, r1⟩ := copy_step 25 3 (.int .i64 0) rfl 8 Tryd.underlying25 (by kernel_rfl) (by decide) l5 c1 b1 o1 (by omega) (fun j => .int .i64 (tok j)) (fun _ => rfl) w2 (fun j hj => cell_below HL2.out.low (g1 j hj))
  have HB1 : Hid (Below w.heap.size w W1) := HL2.out.low.trans (u1.mono HL2.out.low.size)
  obtain ⟨ob2, W2, m2, p2, u2, r2⟩ := copy_step 26 38 (.int .u64 0) rfl 8 Tryd.underlying26 (by kernel_rfl) (by decide) l5 c2 b2 o2 (by omega) (fun j => .int .u64 (pha j)) (fun _ => rfl) W1 (fun j hj => cell_below HB1.out (g2 j hj))
  have HB2 : Hid (Below w.heap.size w W2) := HB1.out.trans (u2.mono HB1.out.size)
  obtain ⟨ob3, W3, m3, p3, u3, r3⟩ := copy_step 27 2 (.int .i64 0) rfl 8 Tryd.underlying27 (by kernel_rfl) (by decide) l5 c3 b3 o3 (by omega) (fun j => .int .i64 (las j)) (fun _ => rfl) W2 (fun j hj => cell_below HB2.out (g3 j hj))
  have HB3 : Hid (Below w.heap.size w W3) := HB2.out.trans (u3.mono HB2.out.size)
  obtain ⟨ob4, W4, m4, p4, u4, r4⟩ := copy_step 28 22 (.float .f64 0) rfl 8 Tryd.underlying28 (by kernel_rfl) (by decide) l5 c4 b4 o4 (by omega) (fun j => .float .f64 (own j)) (fun _ => rfl) W3 (fun j hj => cell_below HB3.out (g4 j hj))
  have HB4 : Hid (Below w.heap.size w W4) := HB3.out.trans (u4.mono HB3.out.size)
  obtain ⟨ob5, W5, m5, p5, u5, r5⟩ := copy_step 29 4 (.bool false) rfl 1 Tryd.underlying29 (by kernel_rfl) (by decide) l5 c5 b5 o5 (by omega) (fun j => .bool (has j)) (fun _ => rfl) W4 (fun j hj => cell_below HB4.out (g5 j hj))
  have HL5 : Hid (HeldL w b mn mx it ic dc per W5) := ((((HL2.out.below u1).below u2).below u3).below u4).below u5
  have HF5 : Hid (Five w2.heap.size W1.heap.size W2.heap.size W3.heap.size W4.heap.size l5 tok pha las own has W5) :=
    ⟨fun j hj => cell_below u5 (cell_below u4 (cell_below u3 (cell_below u2 (r1 j hj)))), fun j hj => cell_below u5 (cell_below u4 (cell_below u3 (r2 j hj))), fun j hj => cell_below u5 (cell_below u4 (r3 j hj)), fun j hj => cell_below u5 (r4 j hj), r5⟩
  have d0 := HL5.out.c0; have d1 := HL5.out.c1; have d2 := HL5.out.c2; have d3 := HL5.out.c3; have d4 := HL5.out.c4; have d5 := HL5.out.c5; have d6 := HL5.out.c6
  have hn5 : l5 ≤ 65536 := by omega
  clear g1 g2 g3 g4 g5 u1 u2 u3 u4 u5 r1 r2 r3 r4 r5 HB1 HB2 HB3 HB4 HL2 q5
  go_wp2_with fail
  obtain ⟨m, o, e, d, f, hok, hc9⟩ := adaptive_c HP.out.lim HX.out.1 ic dc W5 (HX.out.2.2.2.2.below HL5.out.low)
  have HOK : Hid (OKr b m o e d f) := hok
  refine hc9.mono ?_
  clear hc9 hok m1 m2 m3 m4 m5 p1 p2 p3 p4 p5 d0 d1 d2 d3 d4 d5 d6
  rintro e' w6 ⟨⟨A, LB, KB, rfl, hA⟩, hb6⟩
  have HA6 : Hid (Adap A LB KB (b : Int) mn mx it ic dc per m o e d f w6) := hA
  have HF6 : Hid (Five w2.heap.size W1.heap.size W2.heap.size W3.heap.size W4.heap.size l5 tok pha las own has w6) := HF5.out.below hb6
  have HL6 : Hid (HeldL w b mn mx it ic dc per w6) := HL5.out.below hb6
  clear hA hb6 HL5 HF5
  go_wp2_with fail
  refine (C10.out b A LB KB _ _ _ _ _ l5 m o e d f w6 hn5 HP.out.lim HP.out.own HA6.out HF6.out (HX.out.2.2.2.2.below HL6.out.low)).mono ?_
  rintro e' w7 ⟨S, BB, RB, P, rfl, hS, hO⟩
  have HS7 : Hid (ShS w6 S BB RB l5 (pre tok l5) (pre pha l5) (pre las l5) P own (OKr b) w7) := hS
  have HO7 : Hid (Owns has l5 l5 P) := hO
  clear hS hO C10
  go_wp2_with fail
  have hpk : ∀ (g : Nat → Int), ∀ j, j < l5 → pre g l5 j = g j := fun g j hj => if_pos hj
  refine (setz_c HP.out.lim HX.out.1 HP.out.t.1 HP.out.t.2 HOK.out HA6.out HS7.out (HX.out.2.2.2.2.below (HL6.out.low.trans (HS7.out.low.mono HL6.out.low.size))) HK.out hn5 now HX.out.2.1 HX.out.2.2.1 (by rw [hpk las k HK.out]; exact (HX.out.2.2.2.1 k).1) (by rw [hpk las k HK.out]; exact (HX.out.2.2.2.1 k).2) (by rw [hpk tok k HK.out, hpk pha k HK.out]; have := HP.out.tok; rwa [Int.toNat_natCast] at this)).mono ?_
  rintro e' w8 ⟨rfl, hZ⟩
  obtain ⟨P', T1, P1, L1, hE, hR⟩ := end_new HL6.out.c0 HL6.out.c3 HA6.out HF6.out HL6.out.low HS7.out (fun j hj => ⟨hpk tok j hj, hpk pha j hj, hpk las j hj⟩) HO7.out HK.out hZ
  have HR : Hid (EndR (b : Int) (tok k) (pha k) (las k) now T1 P1 L1) := hR
  obtain ⟨Bt, hBt⟩ : ∃ Bt, Bt = w2.heap.size := ⟨_, rfl⟩
  obtain ⟨Bp, hBp⟩ : ∃ Bt, Bt = W1.heap.size := ⟨_, rfl⟩
  obtain ⟨Bl, hBl⟩ : ∃ Bt, Bt = W2.heap.size := ⟨_, rfl⟩
  obtain ⟨Bo, hBo⟩ : ∃ Bt, Bt = W3.heap.size := ⟨_, rfl⟩
  obtain ⟨Bh, hBh⟩ : ∃ Bt, Bt = W4.heap.size := ⟨_, rfl⟩
  rw [← hBt, ← hBp, ← hBl, ← hBo, ← hBh] at hE ⊢
  clear hZ hR HS7 HO7 HA6 HF6 HL6 hpk hBt hBp hBl hBo hBh HOK
  have C12n : Hid (∀ n, Calls Tryd.prog 12 #[.pointer (some ⟨A, 0, Option.none⟩), .pointer (some ⟨S, 0, Option.none⟩), .int .i64 (-1)] (w8.drewN n) fun e w' => e = .returned (.float .f64 it) ∧ w' = w8.drewN n) := fun n => (hE.drewN n).rateNo.mono fun e w' ⟨h1, h2⟩ => ⟨h1, h2.symm⟩
  have C12 : Hid (∀ j wx, j < l5 → EndS w w.heap.size A S BB RB l5 k Bt Bp Bl Bo Bh (b : Int) it t tok pha las own has P' T1 P1 L1 wx → Calls Tryd.prog 12 #[.pointer (some ⟨A, 0, Option.none⟩), .pointer (some ⟨S, 0, Option.none⟩), .int .i64 (j : Int)] wx fun e w' => e = .returned (.float .f64 (rvOf it t k own has j)) ∧ wx = w') := fun j wx hj h => h.rate hn5 j hj
  have l3 := hE.l3
  have HE : Hid (EndS w w.heap.size A S BB RB l5 k Bt Bp Bl Bo Bh (b : Int) it t tok pha las own has P' T1 P1 L1 w8) := hE
  have kit : ∀ x, mn ≤ x → x ≤ mx → (FloatKind.f64.format.order x x == some .eq) = true := fun x h1 h2 => by
    have := HP.out.lim.mx1
    rw [show FloatKind.f64.format.order x x = _ from Flt.order_pos x x (by omega) (by omega), Nat.compare_eq_eq.2 rfl]; rfl
  have HQ : Hid (∀ x, mn ≤ x → x ≤ mx → (FloatKind.f64.format.order x x == some .eq) = true) := kit
  have ki : (FloatKind.f64.format.order it it != some .eq) = false := by rw [bne, kit it HP.out.lim.i1 HP.out.lim.i2]; rfl
  have kt : (FloatKind.f64.format.order t t != some .eq) = false := by rw [bne, kit t HP.out.t.1 HP.out.t.2]; rfl
  clear kit hE
  go_wp2_with fail
  go_quiet ((go_at_call 12; exact Calls.quiet_of_same (C12n.out _)))
  clear C12n l3
  go_wp2_with fail
  have hk12 : rvOf it t k own has k = t := if_pos rfl
  have C12k := C12.out k _ HK.out (HE.out.drewN nq)
  rw [hk12] at C12k
  refine C12k.mono ?_
  clear C12k hk12
  rintro e' w9 ⟨rfl, hw9⟩
  subst hw9
  go_wp2_with fail
  go_loopg [27, 28, 29, 30, 31] l5 (fun gk s27 s28 s29 s30 s31 wx => ∃ j : Nat, s27 = .int .i64 j ∧ j ≤ l5 ∧ gk = l5 - j ∧ Aside (EndS w w.heap.size A S BB RB l5 k Bt Bp Bl Bo Bh (b : Int) it t tok pha las own has P' T1 P1 L1 wx))
  case atStart => exact ⟨0, rfl, Nat.zero_le _, rfl, HE.out.drewN nq⟩
  case round =>
    obtain ⟨j, rfl, hj, hgj, HJ⟩ := hrel
    clear HE
    by_cases hlt : j < l5
    · by_cases hjk : j = k
      · subst hjk
        go_wp2_with fail
        go_roundg (l5 - (j + 1))
        case measure => omega
        case rel => exact ⟨j + 1, by go_num, by omega, rfl, HJ.out⟩
      have kjk : ((j : Int) == (k : Int)) = false := by rw [beq_eq_false_iff_ne]; omega
      have i1 : (j : Int) < (l5 : Int) := by omega
      have l3 := HJ.out.l3
      have ch := HJ.out.five.h j hlt
      have co := HJ.out.five.o j hlt
      have C12j := C12.out j _ hlt HJ.out
      have C13 : Hid (Calls Tryd.prog 13 #[.pointer (some ⟨S, 0, Option.none⟩), .int .i64 (j : Int)] wr fun e w' => e = .returned (.tuple #[.int .i64 (tok j), .int .u64 (pha j), .int .i64 (las j)]) ∧ EndS w w.heap.size A S BB RB l5 k Bt Bp Bl Bo Bh (b : Int) it t tok pha las own has P' T1 P1 L1 w') := HJ.out.bucket hn5 j hlt hjk
      have HJK : Hid (j ≠ k) := hjk
      obtain ⟨X, hX⟩ : ∃ X, own j = X := ⟨_, rfl⟩
      rw [hX] at co
      cases hh : has j with
      | false =>
        have hv : rvOf it t k own has j = it := by unfold rvOf; rw [if_neg hjk, hh]; rfl
        rw [hv] at C12j
        rw [hh] at ch
        have HC : Hid (Calls Tryd.prog 12 #[.pointer (some ⟨A, 0, Option.none⟩), .pointer (some ⟨S, 0, Option.none⟩), .int .i64 (j : Int)] wr fun e w' => e = .returned (.float .f64 it) ∧ wr = w') := C12j
        clear C12j hv hX hjk hh
        go_wp2_with fail
        refine HC.out.mono ?_
        rintro e' w9 ⟨rfl, hw9⟩
        subst hw9
        go_wp2_with fail
        refine C13.out.mono ?_
        rintro e' w9 ⟨rfl, hE9⟩
        have HE9 : Hid _ := hE9
        have ct := hE9.five.t j hlt; have cp := hE9.five.p j hlt; have cl := hE9.five.l j hlt
        clear hE9
        go_wp2_with fail
        go_roundg (l5 - (j + 1))
        case measure => omega
        case rel => exact ⟨j + 1, by go_num, by omega, rfl, HE9.out⟩
      | true =>
        have hv : rvOf it t k own has j = X := by unfold rvOf; rw [if_neg hjk, hh, hX]; rfl
        rw [hv] at C12j
        rw [hh] at ch
        have HC : Hid (Calls Tryd.prog 12 #[.pointer (some ⟨A, 0, Option.none⟩), .pointer (some ⟨S, 0, Option.none⟩), .int .i64 (j : Int)] wr fun e w' => e = .returned (.float .f64 X) ∧ wr = w') := C12j
        have kX : (FloatKind.f64.format.order X X != some .eq) = false := by
          have := HP.out.own j hlt hh
          rw [hX] at this
          rw [bne, HQ.out X this.1 this.2]; rfl
        clear C12j hv hX hjk hh
        go_wp2_with fail
        refine HC.out.mono ?_
        rintro e' w9 ⟨rfl, hw9⟩
        subst hw9
        go_wp2_with fail
        refine C13.out.mono ?_
        rintro e' w9 ⟨rfl, hE9⟩
        have HE9 : Hid _ := hE9
        have ct := hE9.five.t j hlt; have cp := hE9.five.p j hlt; have cl := hE9.five.l j hlt
        clear hE9
        go_wp2_with fail
        go_roundg (l5 - (j + 1))
        case measure => omega
        case rel => exact ⟨j + 1, by go_num, by omega, rfl, HE9.out⟩
    · have i1 : ¬ (j : Int) < (l5 : Int) := by omega
      have C13 : Hid (Calls Tryd.prog 13 #[.pointer (some ⟨S, 0, Option.none⟩), .int .i64 (k : Int)] wr fun e w' => e = .returned (.tuple #[.int .i64 T1, .int .u64 P1, .int .i64 L1]) ∧ EndS w w.heap.size A S BB RB l5 k Bt Bp Bl Bo Bh (b : Int) it t tok pha las own has P' T1 P1 L1 w') := HJ.out.bucketI hn5 HK.out
      have i2 : (k : Int) < (l5 : Int) := by have := HK.out; omega
      go_wp2_with fail
      refine C13.out.mono ?_
      rintro e' w9 ⟨rfl, hE9⟩
      have HE9 : Hid (Below w.heap.size w w9) := hE9.low
      have ct := hE9.five.t k HK.out; have cp := hE9.five.p k HK.out; have cl := hE9.five.l k HK.out; have l0 := hE9.l0
      clear hE9 C13 C12 HJ
      obtain ⟨T, hT⟩ : ∃ T, tok k = T := ⟨_, rfl⟩
      obtain ⟨P2, hP2⟩ : ∃ T, pha k = T := ⟨_, rfl⟩
      obtain ⟨L, hL⟩ : ∃ T, las k = T := ⟨_, rfl⟩
      rw [hT] at ct; rw [hP2] at cp; rw [hL] at cl
      have hR := HR.out
      rw [hT, hP2, hL] at hR
      clear hT hP2 hL HR
      rcases hR with ⟨r1, r2, r3, r4⟩ | ⟨r1, r2, r3, r4, r5, r6⟩
      · subst r1 r2 r3 r4
        go_wp2_with fail
        go_ret
        exact ⟨rfl, HE9.out⟩
      · have kT : (T == -1) = false := by rw [beq_eq_false_iff_ne]; exact r1
        by_cases hnow : L < now
        · have e1 : L1 = now := by rw [r4, if_pos hnow]
          subst e1
          have x1 : decide (L < L1) = true := decide_eq_true hnow
          have x2 : decide (T1 < T) = false := decide_eq_false (by omega)
          have x3 : decide ((b : Int) < T1) = false := decide_eq_false (by omega)
          have x4 : decide (L1 ≤ L) = false := decide_eq_false (by omega)
          clear r1 r2 r4 r6 hnow
          by_cases hb1 : T1 = (b : Int)
          · have r7 := r5 hb1
            subst r7
            clear r5 r3
            have x5 : (T1 == (b : Int)) = true := by rw [beq_iff_eq]; exact hb1
            clear hb1
            go_wp2_with fail
            go_ret
            exact ⟨rfl, HE9.out⟩
          · have x5 : (T1 == (b : Int)) = false := by rw [beq_eq_false_iff_ne]; exact hb1
            clear r5 r3 hb1
            go_wp2_with fail
            go_ret
            exact ⟨rfl, HE9.out⟩
        · have e1 : L1 = L := by rw [r4, if_neg hnow]
          obtain ⟨e2, e3⟩ := r6 (by omega)
          subst e1 e2 e3
          have x1 : decide (L1 < now) = false := decide_eq_false hnow
          have x3 : decide ((b : Int) < T1) = false := decide_eq_false (by omega)
          clear r1 r2 r4 r5 r6 hnow r3
          go_wp2_with fail
          all_goals (go_ret; exact ⟨rfl, HE9.out⟩)

end Go.Proofs.Qxb6616096aDoor
