import Derived.Test.Qxb6615850aNew
import Derived.Test.Qxb6615850aEnded
namespace Go.Proofs.Qxb6615850a
open Go.RowKit
set_option linter.unusedVariables false

/-- The locking stands as the table says, with those of dead gone. -/
def Tb (ws : Row) (R : Nat → Row) (n k : Nat) (y : Lay) (dead : Nat → Bool) (w : World) : Prop := St w y n k (Wd ws dead) (Hd ws R dead) (Rdd R dead)

/-- ended(t), in the table. -/
theorem end_tab (y : Lay) (n k B t : Nat) (ws : Row) (a : Option Addr) (R : Nat → Row) (dead dead' : Nat → Bool) (w : World) (A : Apart y n k B) (hok : TableOK n ws k R) (hl : ∀ x, x < k → (R x).zs.length = (R x).len) (S : Tb ws R n k y dead w) (hB : B ≤ w.heap.size) (ht : t < n) (hn : n ≤ 65536) (hk : k ≤ 65536)
    (hd : ∀ u, dead' u = (dead u || decide (u = t))) :
    Calls Try.prog 10 #[.pointer (some (ad y.M 0)), .int .i64 t] w fun e w' => e = .returned (.tuple #[]) ∧ Tb ws R n k y dead' w' ∧ Below B w w' := by
  refine (zended_any y n k B t _ _ _ w A S hB ht hn hk).mono ?_
  rintro e w' ⟨rfl, h1, h2⟩
  refine ⟨rfl, ?_, h2⟩
  obtain rfl : dead' = fun u => dead u || decide (u = t) := funext hd
  exact St.ended hok.2 hl h1

theorem deads_new (w : World) (n : Nat) : DeadA (w.alloc (.cells (zeros #[.bool false] n) 4)) w.heap.size n (fun _ => false) where
  lt := by simp
  cell := fun i hi => by rw [World.cell?_alloc_new, zeros_get _ _ _ hi]; simp [Nat.mod_one]

theorem DeadA.set {w : World} {b n : Nat} {dead : Nat → Bool} (h : DeadA w b n dead) (t : Nat) : DeadA (w.setCell (ad b t) (.bool true)) b n (fun u => dead u || decide (u = t)) where
  lt := by simpa using h.lt
  cell := fun i hi => by
    by_cases e : i = t
    · subst e
      rw [World.cell?_setCell_same _ _ _ (h.cell i hi)]; simp
    · rw [World.cell?_setCell_other _ _ _ _ (by simp; omega), h.cell i hi]; simp [e]

theorem DeadA.lower {w w' : World} {b n B : Nat} {dead : Nat → Bool} (h : DeadA w b n dead) (hb : Below B w w') (hB : b < B) : DeadA w' b n dead where
  lt := Nat.lt_of_lt_of_le h.lt hb.size
  cell := fun i hi => by rw [hb.cell (p := ad b i) hB]; exact h.cell i hi

set_option maxRecDepth 100000 in
set_option maxHeartbeats 4000000 in
theorem main3 (ts ws : Row) (a : Option Addr) (k c : Nat) (R : Nat → Row) (t : Int) (w : World) (ht : IsRow w ts) (hw : IsRow w ws) (hR : IsRows w a k R) (ht1 : -9223372036854775808 ≤ t) (ht2 : t ≤ 9223372036854775807) :
    Calls Try.prog 3 #[.slice ts.a ts.len ts.cap, .slice ws.a ws.len ws.cap, .slice a k c, .int .i64 t] w fun e w' => e = .returned (.bool true) ∧ Below w.heap.size w w' := by
  have C6 : Hid (Calls Try.prog 6 #[.slice ts.a ts.len ts.cap, .slice ws.a ws.len ws.cap, .slice a k c, .int .i64 t] w fun e w' => RetB e ∧ w = w') := (bytes6 ts ws a k c R t w ht hw hR).mono fun e w' h => ⟨h.1, h.2.symm⟩
  have C7 : Hid (Calls Try.prog 7 #[.slice ts.a ts.len ts.cap, .slice ws.a ws.len ws.cap, .slice a k c, .int .i64 0] w fun e w' => RetSmall ts.len ws.len k R e ∧ w = w') := (tooBig ts ws a k c R 0 w ht hw hR (by omega) (by omega)).mono fun e w' h => ⟨h.1, h.2.symm⟩
  have HTS : Hid (IsRow w ts) := ht
  have HW : Hid (IsRow w ws) := hw
  have HR : Hid (IsRows w a k R) := hR
  obtain ⟨ta, n, tcp, tz⟩ := ts
  obtain ⟨wa, wl, wcp, wz⟩ := ws
  dsimp only at C6 C7
  clear ht hw hR
  go_enter Try.func3, Try.ntmps3
  go_wp2_with fail
  refine C6.out.mono ?_
  rintro e w1 ⟨⟨x, rfl⟩, rfl⟩
  cases x
  · go_wp2_with fail
    go_ret
    exact ⟨rfl, Below.refl _ _⟩
  go_wp2_with fail
  refine C7.out.mono ?_
  rintro e w1 ⟨⟨x, rfl, hx⟩, rfl⟩
  cases x
  case true =>
    go_wp2_with fail
    go_ret
    exact ⟨rfl, Below.refl _ _⟩
  obtain ⟨hn, hk1, hk, hT⟩ := hx rfl
  clear hx
  have C8 : Hid (Calls Try.prog 8 #[.int .i64 n, .slice wa wl wcp, .slice a k c] w fun e w' => RetOK n ⟨wa, wl, wcp, wz⟩ k R e ∧ w = w') := (tableOK n ⟨wa, wl, wcp, wz⟩ a k c R w hn HW.out HR.out).mono fun e w' h => ⟨h.1, h.2.symm⟩
  go_wp2_with fail
  refine C8.out.mono ?_
  rintro e w1 ⟨⟨x, rfl, hx⟩, rfl⟩
  cases x
  case false =>
    go_wp2_with fail
    go_ret
    exact ⟨rfl, Below.refl _ _⟩
  have HOK : Hid (TableOK n ⟨wa, wl, wcp, wz⟩ k R) := hx rfl
  clear hx C6 C7 C8
  by_cases h0 : t < 0
  · go_wp2_with fail
    go_ret
    exact ⟨rfl, Below.refl _ _⟩
  obtain ⟨q, rfl⟩ := Int.eq_ofNat_of_zero_le (Int.not_lt.1 h0)
  by_cases hq : q < n
  case neg =>
    go_wp2_with fail
    go_ret
    exact ⟨rfl, Below.refl _ _⟩
  have mk : (Instr.makeSlice 26 (.int .i64 n) (.int .i64 n)).run Try.prog w = .ok (.slice (some (ad w.heap.size 0)) n n) (w.alloc (.cells (zeros #[.bool false] n) 4)) := by
    have := run_mk 26 4 _ 1 1 Try.underlying26 I4 n (by omega) (by omega) w
    rw [Nat.mul_one] at this; exact this
  have D0 := deads_new w n
  have cD := D0.cell q hq
  have fD : (w.alloc (.cells (zeros #[.bool false] n) 4)).frozen? (ad w.heap.size q) = false := by rw [World.frozen?_alloc_new]
  generalize hwa : w.alloc (.cells (zeros #[.bool false] n) 4) = wA at *
  have b1 : Below w.heap.size w wA := by rw [← hwa]; exact (Below.refl _ w).alloc (Nat.le_refl _) _
  have s1 : wA.heap.size = w.heap.size + 1 := by rw [← hwa]; simp
  clear hwa
  obtain ⟨dead, hdead⟩ : ∃ dead : Nat → Bool, dead = fun u => decide (u = q) := ⟨_, rfl⟩
  generalize hwb : wA.setCell (ad w.heap.size q) (.bool true) = wB
  have D1 : DeadA wB w.heap.size n dead := by
    rw [← hwb, hdead]
    have := D0.set q
    simpa using this
  have b2 : Below w.heap.size w wB := by rw [← hwb]; exact b1.setCell (Nat.le_refl _) _
  have s2 : wB.heap.size = w.heap.size + 1 := by rw [← hwb]; simpa using s1
  have HD : Hid (DeadA wB w.heap.size n dead) := D1
  have HB : Hid (Below w.heap.size w wB) := b2
  have HS2 : Hid (wB.heap.size = w.heap.size + 1) := s2
  have C9 : Hid (Calls Try.prog 9 #[.string ⟨#[]⟩, .slice ta n tcp, .slice wa wl wcp, .slice a k c] wB (RetNew ⟨wa, wl, wcp, wz⟩ R n k wB)) :=
    new_any ⟨#[]⟩ ⟨ta, n, tcp, tz⟩ ⟨wa, wl, wcp, wz⟩ a k c n R wB (HTS.out.below b2) (HW.out.below b2) (HR.out.below b2) HOK.out rfl hn hk hT
  have HDD : Hid (dead = fun u => decide (u = q)) := hdead
  clear D0 D1 b1 b2 s2 s1 hdead
  go_wp2_with fail
  refine C9.out.mono ?_
  rintro e w2 ⟨y, rfl, hA, hSt, hb2⟩
  have HA : Hid (Apart y n k wB.heap.size) := hA
  have hl : ∀ x, x < k → (R x).zs.length = (R x).len := fun x hx => (HR.out.rows x hx).size
  have HL : Hid (∀ x, x < k → (R x).zs.length = (R x).len) := hl
  have HB2 : Hid (Below wB.heap.size wB w2) := hb2
  have C10 : Hid (Calls Try.prog 10 #[.pointer (some (ad y.M 0)), .int .i64 q] w2 fun e w' => e = .returned (.tuple #[]) ∧ Tb ⟨wa, wl, wcp, wz⟩ R n k y dead w' ∧ Below wB.heap.size w2 w') :=
    end_tab y n k wB.heap.size q ⟨wa, wl, wcp, wz⟩ a R (fun _ => false) dead w2 hA HOK.out hl hSt hb2.size hq hn hk (fun u => by rw [HDD.out]; simp)
  clear hA hSt hb2 hl C9
  go_wp2_with fail
  refine C10.out.mono ?_
  rintro e w3 ⟨rfl, hT3, hb3⟩
  have HT3 : Hid (Tb ⟨wa, wl, wcp, wz⟩ R n k y dead w3) := hT3
  have HB3 : Hid (Below wB.heap.size wB w3) := HB2.out.trans hb3
  have M3 : Hid (Calls Try.prog 11 #[.pointer (some (ad y.M 0)), .int .i64 n, .slice wa wl wcp, .slice a k c, .slice (some (ad w.heap.size 0)) n n] w3 fun e w' => e = .returned (.bool true) ∧ Below w3.heap.size w3 w') := by
    have hbw : Below w.heap.size w w3 := HB.out.trans (HB3.out.mono HB.out.size)
    exact matches_any y n ⟨wa, wl, wcp, wz⟩ a k c w.heap.size R dead w3 hn hk (HW.out.below hbw) (HR.out.below hbw) HOK.out (HD.out.lower HB3.out HD.out.lt) hT3
  clear hT3 hb3 C10
  go_wp2_with fail
  refine M3.out.mono ?_
  rintro e w4 ⟨rfl, hb4⟩
  have HT4 : Hid (Tb ⟨wa, wl, wcp, wz⟩ R n k y dead w4) := St.below HT3.out hb4
  have HB4 : Hid (Below wB.heap.size wB w4) := HB3.out.trans (hb4.mono HB3.out.size)
  have C11 : Hid (Calls Try.prog 10 #[.pointer (some (ad y.M 0)), .int .i64 q] w4 fun e w' => e = .returned (.tuple #[]) ∧ Tb ⟨wa, wl, wcp, wz⟩ R n k y dead w' ∧ Below wB.heap.size w4 w') :=
    end_tab y n k wB.heap.size q ⟨wa, wl, wcp, wz⟩ a R dead dead w4 HA.out HOK.out HL.out HT4.out HB4.out.size hq hn hk (fun u => by rw [HDD.out]; simp)
  clear hb4 M3 HT3
  go_wp2_with fail
  refine C11.out.mono ?_
  rintro e w5 ⟨rfl, hT5, hb5⟩
  have HB5 : Hid (Below wB.heap.size wB w5) := HB4.out.trans hb5
  have hbw : Below w.heap.size w w5 := HB.out.trans (HB5.out.mono HB.out.size)
  have HBW : Hid (Below w.heap.size w w5) := hbw
  have M5 : Hid (Calls Try.prog 11 #[.pointer (some (ad y.M 0)), .int .i64 n, .slice wa wl wcp, .slice a k c, .slice (some (ad w.heap.size 0)) n n] w5 fun e w' => e = .returned (.bool true) ∧ Below w5.heap.size w5 w') :=
    matches_any y n ⟨wa, wl, wcp, wz⟩ a k c w.heap.size R dead w5 hn hk (HW.out.below hbw) (HR.out.below hbw) HOK.out (HD.out.lower HB5.out HD.out.lt) hT5
  clear hT5 hb5 hbw C11
  go_wp2_with fail
  refine M5.out.mono ?_
  rintro e w6 ⟨rfl, hb6⟩
  have HB6 : Hid (Below w.heap.size w w6) := HBW.out.trans (hb6.mono HBW.out.size)
  clear hb6
  go_wp2_with fail
  go_ret
  exact ⟨rfl, HB6.out⟩

set_option maxRecDepth 100000 in
set_option maxHeartbeats 4000000 in
theorem main4 (ts ws : Row) (a : Option Addr) (k c : Nat) (R : Nat → Row) (t p : Int) (w : World) (ht : IsRow w ts) (hw : IsRow w ws) (hR : IsRows w a k R) (ht1 : -9223372036854775808 ≤ t) (ht2 : t ≤ 9223372036854775807) :
    Calls Try.prog 4 #[.slice ts.a ts.len ts.cap, .slice ws.a ws.len ws.cap, .slice a k c, .int .i64 t, .int .i64 p] w fun e w' => e = .returned (.bool true) ∧ Below w.heap.size w w' := by
  have C6 : Hid (Calls Try.prog 12 #[.slice ts.a ts.len ts.cap, .slice ws.a ws.len ws.cap, .slice a k c, .int .i64 t, .int .i64 p] w fun e w' => RetB e ∧ w = w') := (bytes12 ts ws a k c R t p w ht hw hR).mono fun e w' h => ⟨h.1, h.2.symm⟩
  have C7 : Hid (Calls Try.prog 7 #[.slice ts.a ts.len ts.cap, .slice ws.a ws.len ws.cap, .slice a k c, .int .i64 0] w fun e w' => RetSmall ts.len ws.len k R e ∧ w = w') := (tooBig ts ws a k c R 0 w ht hw hR (by omega) (by omega)).mono fun e w' h => ⟨h.1, h.2.symm⟩
  have HTS : Hid (IsRow w ts) := ht
  have HW : Hid (IsRow w ws) := hw
  have HR : Hid (IsRows w a k R) := hR
  obtain ⟨ta, n, tcp, tz⟩ := ts
  obtain ⟨wa, wl, wcp, wz⟩ := ws
  dsimp only at C6 C7
  clear ht hw hR
  go_enter Try.func4, Try.ntmps4
  go_wp2_with fail
  refine C6.out.mono ?_
  rintro e w1 ⟨⟨x, rfl⟩, rfl⟩
  cases x
  · go_wp2_with fail
    go_ret
    exact ⟨rfl, Below.refl _ _⟩
  go_wp2_with fail
  refine C7.out.mono ?_
  rintro e w1 ⟨⟨x, rfl, hx⟩, rfl⟩
  cases x
  case true =>
    go_wp2_with fail
    go_ret
    exact ⟨rfl, Below.refl _ _⟩
  obtain ⟨hn, hk1, hk, hT⟩ := hx rfl
  clear hx
  have C8 : Hid (Calls Try.prog 8 #[.int .i64 n, .slice wa wl wcp, .slice a k c] w fun e w' => RetOK n ⟨wa, wl, wcp, wz⟩ k R e ∧ w = w') := (tableOK n ⟨wa, wl, wcp, wz⟩ a k c R w hn HW.out HR.out).mono fun e w' h => ⟨h.1, h.2.symm⟩
  go_wp2_with fail
  refine C8.out.mono ?_
  rintro e w1 ⟨⟨x, rfl, hx⟩, rfl⟩
  cases x
  case false =>
    go_wp2_with fail
    go_ret
    exact ⟨rfl, Below.refl _ _⟩
  have HOK : Hid (TableOK n ⟨wa, wl, wcp, wz⟩ k R) := hx rfl
  clear hx C6 C7 C8
  by_cases h0 : t < 0
  · go_wp2_with fail
    go_ret
    exact ⟨rfl, Below.refl _ _⟩
  obtain ⟨q, rfl⟩ := Int.eq_ofNat_of_zero_le (Int.not_lt.1 h0)
  by_cases hq : q < n
  case neg =>
    go_wp2_with fail
    go_ret
    exact ⟨rfl, Below.refl _ _⟩
  have mk : ∀ w, (Instr.makeSlice 26 (.int .i64 n) (.int .i64 n)).run Try.prog w = .ok (.slice (some (ad w.heap.size 0)) n n) (w.alloc (.cells (zeros #[.bool false] n) 4)) := fun w => by
    have := run_mk 26 4 _ 1 1 Try.underlying26 I4 n (by omega) (by omega) w
    rw [Nat.mul_one] at this; exact this
  have mk1 := mk w
  have D0 := deads_new w n
  generalize hwa : w.alloc (.cells (zeros #[.bool false] n) 4) = wA at *
  have b1 : Below w.heap.size w wA := by rw [← hwa]; exact (Below.refl _ w).alloc (Nat.le_refl _) _
  have s1 : wA.heap.size = w.heap.size + 1 := by rw [← hwa]; simp
  clear hwa
  have mk2 := mk wA
  have E0 := deads_new wA n
  have cD := E0.cell q hq
  have fD : (wA.alloc (.cells (zeros #[.bool false] n) 4)).frozen? (ad wA.heap.size q) = false := by rw [World.frozen?_alloc_new]
  rw [s1] at mk2 E0 cD fD
  have D1 := D0.below ((Below.refl _ wA).alloc (Nat.le_refl _) (.cells (zeros #[.bool false] n) 4))
  have b2 : Below w.heap.size w (wA.alloc (.cells (zeros #[.bool false] n) 4)) := b1.alloc (by omega) _
  have s2 : (wA.alloc (.cells (zeros #[.bool false] n) 4)).heap.size = w.heap.size + 2 := by simp; omega
  generalize hwb : wA.alloc (.cells (zeros #[.bool false] n) 4) = wB at *
  clear hwb mk
  obtain ⟨dead, hdead⟩ : ∃ dead : Nat → Bool, dead = fun u => decide (u = q) := ⟨_, rfl⟩
  generalize hwc : wB.setCell (ad (w.heap.size + 1) q) (.bool true) = wC
  have E1 : DeadA wC (w.heap.size + 1) n dead := by
    rw [← hwc, hdead]
    have := E0.set q
    simpa using this
  have D2 : DeadA wC w.heap.size n (fun _ => false) := by
    rw [← hwc]
    exact ⟨by simp; omega, fun i hi => by rw [World.cell?_setCell_other _ _ _ _ (by simp)]; exact D1.cell i hi⟩
  have b3 : Below w.heap.size w wC := by rw [← hwc]; exact b2.setCell (by simp) _
  have HD : Hid (DeadA wC (w.heap.size + 1) n dead) := E1
  have HN : Hid (DeadA wC w.heap.size n (fun _ => false)) := D2
  have HB : Hid (Below w.heap.size w wC) := b3
  have C9 : Hid (Calls Try.prog 9 #[.string ⟨#[119, 97, 105, 116, 45, 100, 105, 101]⟩, .slice ta n tcp, .slice wa wl wcp, .slice a k c] wC (RetNew ⟨wa, wl, wcp, wz⟩ R n k wC)) :=
    new_any _ ⟨ta, n, tcp, tz⟩ ⟨wa, wl, wcp, wz⟩ a k c n R wC (HTS.out.below b3) (HW.out.below b3) (HR.out.below b3) HOK.out rfl hn hk hT
  have HDD : Hid (dead = fun u => decide (u = q)) := hdead
  clear D0 D1 D2 E0 E1 b1 b2 b3 s1 s2 hdead
  go_wp2_with fail
  refine C9.out.mono ?_
  rintro e w2 ⟨y, rfl, hA, hSt, hb2⟩
  have HA : Hid (Apart y n k wC.heap.size) := hA
  have HL : Hid (∀ x, x < k → (R x).zs.length = (R x).len) := fun x hx => (HR.out.rows x hx).size
  have HB2 : Hid (Below wC.heap.size wC w2) := hb2
  have HT2 : Hid (Tb ⟨wa, wl, wcp, wz⟩ R n k y (fun _ => false) w2) := hSt
  clear hA hSt hb2 C9
  go_wp2_with fail
  refine (zcommits_any (ad y.M 0) q p w2).mono ?_
  rintro e w3 ⟨rfl, rfl⟩
  have M3 : Hid (Calls Try.prog 11 #[.pointer (some (ad y.M 0)), .int .i64 n, .slice wa wl wcp, .slice a k c, .slice (some (ad w.heap.size 0)) n n] w2 fun e w' => e = .returned (.bool true) ∧ Below w2.heap.size w2 w') := by
    have hbw : Below w.heap.size w w2 := HB.out.trans (HB2.out.mono HB.out.size)
    exact matches_any y n ⟨wa, wl, wcp, wz⟩ a k c w.heap.size R (fun _ => false) w2 hn hk (HW.out.below hbw) (HR.out.below hbw) HOK.out (HN.out.lower HB2.out HN.out.lt) HT2.out
  go_wp2_with fail
  refine M3.out.mono ?_
  rintro e w4 ⟨rfl, hb4⟩
  have HT4 : Hid (Tb ⟨wa, wl, wcp, wz⟩ R n k y (fun _ => false) w4) := St.below HT2.out hb4
  have HB4 : Hid (Below wC.heap.size wC w4) := HB2.out.trans (hb4.mono HB2.out.size)
  have C11 : Hid (Calls Try.prog 10 #[.pointer (some (ad y.M 0)), .int .i64 q] w4 fun e w' => e = .returned (.tuple #[]) ∧ Tb ⟨wa, wl, wcp, wz⟩ R n k y dead w' ∧ Below wC.heap.size w4 w') :=
    end_tab y n k wC.heap.size q ⟨wa, wl, wcp, wz⟩ a R (fun _ => false) dead w4 HA.out HOK.out HL.out HT4.out HB4.out.size hq hn hk (fun u => by rw [HDD.out]; simp)
  clear hb4 M3 HT2
  go_wp2_with fail
  refine C11.out.mono ?_
  rintro e w5 ⟨rfl, hT5, hb5⟩
  have HB5 : Hid (Below wC.heap.size wC w5) := HB4.out.trans hb5
  have hbw : Below w.heap.size w w5 := HB.out.trans (HB5.out.mono HB.out.size)
  have HBW : Hid (Below w.heap.size w w5) := hbw
  have M5 : Hid (Calls Try.prog 11 #[.pointer (some (ad y.M 0)), .int .i64 n, .slice wa wl wcp, .slice a k c, .slice (some (ad (w.heap.size + 1) 0)) n n] w5 fun e w' => e = .returned (.bool true) ∧ Below w5.heap.size w5 w') :=
    matches_any y n ⟨wa, wl, wcp, wz⟩ a k c (w.heap.size + 1) R dead w5 hn hk (HW.out.below hbw) (HR.out.below hbw) HOK.out (HD.out.lower HB5.out HD.out.lt) hT5
  clear hT5 hb5 hbw C11
  go_wp2_with fail
  refine M5.out.mono ?_
  rintro e w6 ⟨rfl, hb6⟩
  have HB6 : Hid (Below w.heap.size w w6) := HBW.out.trans (hb6.mono HBW.out.size)
  clear hb6
  go_wp2_with fail
  go_ret
  exact ⟨rfl, HB6.out⟩

end Go.Proofs.Qxb6615850a
