import Derived.Test.Qxb6615850aMain
namespace Go.Proofs.Qxb6615850a
open Go.RowKit
set_option linter.unusedVariables false

/-- The marks, while they are being set. -/
def Mk (n : Nat) (dead : Nat → Bool) (w wx : World) : Prop := DeadA wx w.heap.size n dead ∧ (∀ i, i < n → wx.frozen? (ad w.heap.size i) = false) ∧ Below w.heap.size w wx ∧ wx.heap.size = w.heap.size + 1

theorem Mk.set {n : Nat} {dead dead' : Nat → Bool} {w wx : World} (h : Mk n dead w wx) (t : Nat) (hd : ∀ u, dead' u = (dead u || decide (u = t))) : Mk n dead' w (wx.setCell (ad w.heap.size t) (.bool true)) := by
  obtain ⟨h1, h2, h3, h4⟩ := h
  obtain rfl : dead' = fun u => dead u || decide (u = t) := funext hd
  exact ⟨h1.set t, fun i hi => by rw [World.frozen?_setCell]; exact h2 i hi, h3.setCell (Nat.le_refl _) _, by simpa using h4⟩

set_option maxRecDepth 100000 in
set_option maxHeartbeats 8000000 in
theorem main5 (ts ws : Row) (a : Option Addr) (k c : Nat) (R : Nat → Row) (os : Row) (p : Int) (w : World) (ht : IsRow w ts) (hw : IsRow w ws) (hR : IsRows w a k R) (ho : IsRow w os) :
    Calls Try.prog 5 #[.slice ts.a ts.len ts.cap, .slice ws.a ws.len ws.cap, .slice a k c, .slice os.a os.len os.cap, .int .i64 p] w fun e w' => e = .returned (.bool true) ∧ Below w.heap.size w w' := by
  have C6 : Hid (Calls Try.prog 14 #[.slice ts.a ts.len ts.cap, .slice ws.a ws.len ws.cap, .slice a k c, .slice os.a os.len os.cap, .int .i64 p] w fun e w' => RetB e ∧ w = w') := (bytes14 ts ws a k c R os p w ht hw hR ho).mono fun e w' h => ⟨h.1, h.2.symm⟩
  have hos := ho.small
  unfold maxLen at hos
  have C7 : Hid (os.len ≤ 65536 → Calls Try.prog 7 #[.slice ts.a ts.len ts.cap, .slice ws.a ws.len ws.cap, .slice a k c, .int .i64 (8 * (os.len : Int))] w fun e w' => RetSmall ts.len ws.len k R e ∧ w = w') :=
    fun h => (tooBig ts ws a k c R (8 * (os.len : Int)) w ht hw hR (by omega) (by omega)).mono fun e w' h => ⟨h.1, h.2.symm⟩
  have HTS : Hid (IsRow w ts) := ht
  have HW : Hid (IsRow w ws) := hw
  have HR : Hid (IsRows w a k R) := hR
  have HO : Hid (IsRow w os) := ho
  obtain ⟨ta, n, tcp, tz⟩ := ts
  obtain ⟨wa, wl, wcp, wz⟩ := ws
  obtain ⟨oa, ol, ocp, oz⟩ := os
  dsimp only at C6 C7 hos
  have hoz : oz.length = ol := HO.out.size
  clear ht hw hR ho
  go_enter Try.func5, Try.ntmps5
  go_wp2_with fail
  refine C6.out.mono ?_
  rintro e w1 ⟨⟨x, rfl⟩, rfl⟩
  cases x
  · go_wp2_with fail
    go_ret
    exact ⟨rfl, Below.refl _ _⟩
  by_cases hol : ol ≤ 65536
  case neg =>
    have hol' : (65536 : Int) < (ol : Int) := by omega
    go_wp2_with fail
    go_ret
    exact ⟨rfl, Below.refl _ _⟩
  have hol' : (ol : Int) ≤ 65536 := by omega
  go_wp2_with fail
  refine (C7.out hol).mono ?_
  rintro e w1 ⟨⟨x, rfl, hx⟩, rfl⟩
  cases x
  case true =>
    go_wp2_with fail
    go_ret
    exact ⟨rfl, Below.refl _ _⟩
  obtain ⟨hn, hk1, hk, hT⟩ := hx rfl
  clear hx
  have C8 : Hid (Calls Try.prog 8 #[.int .i64 n, .slice wa wl wcp, .slice a k c] w fun e w' => RetOK n ⟨wa, wl, wcp, wz⟩ k R e ∧ w = w') := (tableOK n ⟨wa, wl, wcp, wz⟩ a k c R w hn HW.out HR.out).mono fun e w' h => ⟨h.1, h.2.symm⟩
  go_wp2_with fail
  refine C8.out.mono ?_
  rintro e w1 ⟨⟨x, rfl, hx⟩, rfl⟩
  cases x
  case false =>
    go_wp2_with fail
    go_ret
    exact ⟨rfl, Below.refl _ _⟩
  have HOK : Hid (TableOK n ⟨wa, wl, wcp, wz⟩ k R) := hx rfl
  clear hx C6 C7 C8
  go_wp2_with fail
  go_loopg [12] ol (fun gk s wx => ∃ i : Nat, s = .int .i64 i ∧ i ≤ ol ∧ gk = ol - i ∧ w = wx ∧ Aside (∀ j, j < i → 0 ≤ oz.getD j 0 ∧ oz.getD j 0 < n))
  case atStart => exact ⟨0, rfl, Nat.zero_le _, rfl, rfl, fun j hj => by omega⟩
  case round =>
    obtain ⟨i, rfl, hi, hgi, rfl, HI⟩ := hrel
    by_cases hil : i < ol
    · obtain ⟨ob, oo, hoa, hob, hoc⟩ := HO.out.at_ (by show 0 < ol; omega)
      dsimp only at hoa
      subst hoa
      have co := hoc i hil
      dsimp only at co
      have ii1 : (i : Int) < (ol : Int) := by omega
      have ii2 : (0 : Int) ≤ (i : Int) := by omega
      clear hoc
      obtain ⟨z, hz⟩ : ∃ z, z = oz.getD i 0 := ⟨_, rfl⟩
      rw [← hz] at co
      have HZ : Hid (z = oz.getD i 0) := hz
      clear hz
      by_cases h0 : z < 0
      · have h0' : decide (z < 0) = true := by simpa using h0
        go_wp2_with fail
        go_ret
        exact ⟨rfl, Below.refl _ _⟩
      have h0' : decide (z < 0) = false := by simpa using h0
      by_cases h1 : (n : Int) ≤ z
      · have h1' : decide ((n : Int) ≤ z) = true := by simpa using h1
        go_wp2_with fail
        go_ret
        exact ⟨rfl, Below.refl _ _⟩
      have h1' : decide ((n : Int) ≤ z) = false := by simpa using h1
      have HN : Aside (∀ j, j < i + 1 → 0 ≤ oz.getD j 0 ∧ oz.getD j 0 < n) := fun j hj => by
        by_cases e : j = i
        · subst e; rw [← HZ.out]; omega
        · exact HI.out j (by omega)
      clear HI
      go_wp2_with fail
      go_roundg (ol - (i + 1))
      case measure => omega
      case rel => exact ⟨i + 1, by go_num, by omega, rfl, rfl, HN⟩
    · obtain rfl : i = ol := by omega
      have mk : (Instr.makeSlice 26 (.int .i64 n) (.int .i64 n)).run Try.prog w = .ok (.slice (some (ad w.heap.size 0)) n n) (w.alloc (.cells (zeros #[.bool false] n) 4)) := by
        have := run_mk 26 4 _ 1 1 Try.underlying26 I4 n (by omega) (by omega) w
        rw [Nat.mul_one] at this; exact this
      have HM0 : Aside (Mk n (fun u => among (oz.take 0) u) w (w.alloc (.cells (zeros #[.bool false] n) 4))) := by
        refine ⟨?_, fun i hi => by rw [World.frozen?_alloc_new], (Below.refl _ w).alloc (Nat.le_refl _) _, by simp⟩
        have := deads_new w n
        exact ⟨this.lt, fun i hi => by rw [this.cell i hi]; simp [among]⟩
      have ii : ¬ (i : Int) < (i : Int) := by omega
      go_wp2_with fail
      go_loopg [14] i (fun gk s wx => ∃ j : Nat, s = .int .i64 j ∧ j ≤ i ∧ gk = i - j ∧ Aside (Mk n (fun u => among (oz.take j) u) w wx))
      case atStart => exact ⟨0, rfl, Nat.zero_le _, rfl, HM0⟩
      case round =>
        obtain ⟨j, rfl, hj, hgj, HM⟩ := hrel
        clear HM0 mk
        by_cases hjl : j < i
        · obtain ⟨ob, oo, hoa, hob, hoc⟩ := HO.out.at_ (by show 0 < i; omega)
          dsimp only at hoa
          subst hoa
          obtain ⟨q, hq⟩ := Int.eq_ofNat_of_zero_le (HI.out j hjl).1
          have hqn : q < n := by have := (HI.out j hjl).2; omega
          have co : wr.cell? ⟨ob, oo + j, Option.none⟩ = some (.int .i64 (q : Int)) := by
            rw [HM.out.2.2.1.cell (p := ⟨ob, oo + j, Option.none⟩) hob, ← hq]; exact hoc j hjl
          have cd := HM.out.1.cell q hqn
          have fd := HM.out.2.1 q hqn
          have HN : Aside (Mk n (fun u => among (oz.take (j + 1)) u) w (wr.setCell (ad w.heap.size q) (.bool true))) :=
            HM.out.set q (fun u => by
              rw [among_succ oz j u (by omega), hq]
              congr 1
              by_cases e : u = q
              · subst e; simp
              · simp [e]; omega)
          have ij1 : (j : Int) < (i : Int) := by omega
          have ij2 : (0 : Int) ≤ (j : Int) := by omega
          have iq1 : (q : Int) < (n : Int) := by omega
          have iq2 : (0 : Int) ≤ (q : Int) := by omega
          generalize (fun u => among (oz.take j) u) q = bq at *
          clear hoc hq HM
          go_wp2_with fail
          go_roundg (i - (j + 1))
          case measure => omega
          case rel => exact ⟨j + 1, by go_num, by omega, rfl, HN⟩
        · obtain rfl : j = i := by omega
          obtain ⟨wB, hwB⟩ : ∃ wB, wB = wr := ⟨_, rfl⟩
          subst hwB
          have HB : Hid (Below w.heap.size w wB) := HM.out.2.2.1
          have HD : Hid (DeadA wB w.heap.size n (fun u => among (oz.take j) u)) := HM.out.1
          have C9 : Hid (Calls Try.prog 9 #[.string ⟨#[119, 111, 117, 110, 100, 45, 119, 97, 105, 116]⟩, .slice ta n tcp, .slice wa wl wcp, .slice a k c] wB (RetNew ⟨wa, wl, wcp, wz⟩ R n k wB)) :=
            new_any _ ⟨ta, n, tcp, tz⟩ ⟨wa, wl, wcp, wz⟩ a k c n R wB (HTS.out.below HB.out) (HW.out.below HB.out) (HR.out.below HB.out) HOK.out rfl hn hk hT
          clear HM
          go_wp2_with fail
          refine C9.out.mono ?_
          rintro e w2 ⟨y, rfl, hA, hSt, hb2⟩
          have HA : Hid (Apart y n k wB.heap.size) := hA
          have HL : Hid (∀ x, x < k → (R x).zs.length = (R x).len) := fun x hx => (HR.out.rows x hx).size
          have HT0 : Aside (Tb ⟨wa, wl, wcp, wz⟩ R n k y (fun u => among (oz.take 0) u) w2 ∧ Below wB.heap.size wB w2) := by
            refine ⟨?_, hb2⟩
            have : (fun u => among (oz.take 0) u) = fun _ => false := by funext u; simp [among]
            rw [this]; exact hSt
          clear hA hSt hb2 C9
          go_wp2_with fail
          go_loopg [16, 17] j (fun gk s16 s wx => ∃ l : Nat, s16 = .bool true ∧ s = .int .i64 l ∧ l ≤ j ∧ gk = j - l ∧ Aside (Tb ⟨wa, wl, wcp, wz⟩ R n k y (fun u => among (oz.take l) u) wx ∧ Below wB.heap.size wB wx))
          case atStart => exact ⟨0, rfl, rfl, Nat.zero_le _, rfl, HT0⟩
          case round =>
            obtain ⟨l, rfl, rfl, hl, hgl, HT⟩ := hrel
            clear HT0
            have HBL : Hid (Below w.heap.size w wr) := HB.out.trans (HT.out.2.mono HB.out.size)
            have HTL : Hid (Tb ⟨wa, wl, wcp, wz⟩ R n k y (fun u => among (oz.take l) u) wr) := HT.out.1
            have HBB : Hid (Below wB.heap.size wB wr) := HT.out.2
            clear HT
            by_cases hll : l < j
            · obtain ⟨ob, oo, hoa, hob, hoc⟩ := HO.out.at_ (by show 0 < j; omega)
              dsimp only at hoa
              subst hoa
              obtain ⟨q, hq⟩ := Int.eq_ofNat_of_zero_le (HI.out l hll).1
              have hqn : q < n := by have := (HI.out l hll).2; omega
              have co : wr.cell? ⟨ob, oo + l, Option.none⟩ = some (.int .i64 (q : Int)) := by
                rw [HBL.out.cell (p := ⟨ob, oo + l, Option.none⟩) hob, ← hq]; exact hoc l hll
              have C10 : Hid (Calls Try.prog 10 #[.pointer (some (ad y.M 0)), .int .i64 q] wr fun e w' => e = .returned (.tuple #[]) ∧ Tb ⟨wa, wl, wcp, wz⟩ R n k y (fun u => among (oz.take (l + 1)) u) w' ∧ Below wB.heap.size wr w') :=
                end_tab y n k wB.heap.size q ⟨wa, wl, wcp, wz⟩ a R (fun u => among (oz.take l) u) _ wr HA.out HOK.out HL.out HTL.out HBB.out.size hqn hn hk (fun u => by
                  rw [among_succ oz l u (by omega), hq]
                  congr 1
                  by_cases e : u = q
                  · subst e; simp
                  · simp [e]; omega)
              have ij1 : (l : Int) < (j : Int) := by omega
              have ij2 : (0 : Int) ≤ (l : Int) := by omega
              clear hoc hq HTL
              go_wp2_with fail
              refine (zcommits_any (ad y.M 0) q p wr).mono ?_
              rintro e w3 ⟨rfl, rfl⟩
              go_wp2_with fail
              refine C10.out.mono ?_
              rintro e w4 ⟨rfl, hT4, hb4⟩
              have HN : Aside (Tb ⟨wa, wl, wcp, wz⟩ R n k y (fun u => among (oz.take (l + 1)) u) w4 ∧ Below wB.heap.size wB w4) := ⟨hT4, HBB.out.trans hb4⟩
              clear hT4 hb4 C10
              go_wp2_with fail
              go_roundg (j - (l + 1))
              case measure => omega
              case rel => exact ⟨l + 1, rfl, by go_num, by omega, rfl, HN⟩
            · obtain rfl : l = j := by omega
              have M5 : Hid (Calls Try.prog 11 #[.pointer (some (ad y.M 0)), .int .i64 n, .slice wa wl wcp, .slice a k c, .slice (some (ad w.heap.size 0)) n n] wr fun e w' => e = .returned (.bool true) ∧ Below wr.heap.size wr w') :=
                matches_any y n ⟨wa, wl, wcp, wz⟩ a k c w.heap.size R (fun u => among (oz.take l) u) wr hn hk (HW.out.below HBL.out) (HR.out.below HBL.out) HOK.out (HD.out.lower HBB.out HD.out.lt) HTL.out
              clear HTL
              go_wp2_with fail
              refine M5.out.mono ?_
              rintro e w6 ⟨rfl, hb6⟩
              have HB6 : Hid (Below w.heap.size w w6) := HBL.out.trans (hb6.mono HBL.out.size)
              clear hb6
              go_wp2_with fail
              go_ret
              exact ⟨rfl, HB6.out⟩

end Go.Proofs.Qxb6615850a
