import Derived.Test.Qxb6615850aTab
import Derived.Deep.DeepCutAuto
import Derived.Deep.LoopGhost
import Derived.Deep.QuietTactic
import Derived.BigQuiet
namespace Go.Proofs.Qxb6615850a
open Go.RowKit
set_option linter.unusedVariables false

/-- The marks of the dead, in a block of bools. -/
structure DeadA (w : World) (b n : Nat) (dead : Nat → Bool) : Prop where
  lt : b < w.heap.size
  cell : ∀ i, i < n → w.cell? (ad b i) = some (.bool (dead i))

theorem DeadA.below {w w' : World} {b n : Nat} {dead : Nat → Bool} (h : DeadA w b n dead) (hb : Below w.heap.size w w') : DeadA w' b n dead where
  lt := Nat.lt_of_lt_of_le h.lt hb.size
  cell := fun i hi => by rw [hb.cell (p := ad b i) h.lt]; exact h.cell i hi

/-- What tableMatches has counted when it comes to item x. -/
def Tm (ws : Row) (R : Nat → Row) (dead : Nat → Bool) (n : Nat) (w : World) (x : Nat) (wx : World) : Prop :=
  Below w.heap.size w wx ∧ ∃ hc sn : Nat → Int, Arr wx w.heap.size n hc ∧ Arr wx (w.heap.size + 1) n sn ∧
    (∀ u, u < n → hc u = (cnt (fun x => (Hd ws R dead u x).isSome) x : Nat)) ∧ ∀ u, u < n → 0 ≤ sn u ∧ sn u ≤ x

/-- .. when item x's writer and the first j of its readers zs have been looked at. -/
def Tw (ws : Row) (R : Nat → Row) (dead : Nat → Bool) (n : Nat) (w : World) (x : Nat) (zs : List Int) (j : Nat) (wx : World) : Prop :=
  Below w.heap.size w wx ∧ ∃ hc sn : Nat → Int, Arr wx w.heap.size n hc ∧ Arr wx (w.heap.size + 1) n sn ∧
    (∀ u, u < n → hc u = (cnt (fun x => (Hd ws R dead u x).isSome) x + (if Wd ws dead x = (u : Int) then 1 else 0) + (if pr zs dead j u = true then 1 else 0) : Nat)) ∧
    ∀ u, u < n → (pr zs dead j u = true → sn u = x + 1) ∧ (pr zs dead j u = false → 0 ≤ sn u ∧ sn u ≤ x)

theorem Tw.congr {ws : Row} {R : Nat → Row} {dead : Nat → Bool} {n : Nat} {w : World} {x : Nat} {zs : List Int} {j j' : Nat} {wx : World} (h : Tw ws R dead n w x zs j wx) (e : ∀ u, pr zs dead j' u = pr zs dead j u) : Tw ws R dead n w x zs j' wx := by
  obtain ⟨hb, hc, sn, h1, h2, h3, h4⟩ := h
  exact ⟨hb, hc, sn, h1, h2, fun u hu => by rw [e u]; exact h3 u hu, fun u hu => by rw [e u]; exact h4 u hu⟩

set_option maxRecDepth 100000 in
set_option maxHeartbeats 8000000 in
theorem matches_any (y : Lay) (n : Nat) (ws : Row) (a : Option Addr) (k c DB : Nat) (R : Nat → Row) (dead : Nat → Bool) (w : World)
    (hn : n ≤ 65536) (hk : k ≤ 65536) (hw : IsRow w ws) (hR : IsRows w a k R) (hT : TableOK n ws k R) (hD : DeadA w DB n dead)
    (S : St w y n k (Wd ws dead) (Hd ws R dead) (Rdd R dead)) :
    Calls Try.prog 11 #[.pointer (some (ad y.M 0)), .int .i64 n, .slice ws.a ws.len ws.cap, .slice a k c, .slice (some (ad DB 0)) n n] w fun e w' => e = .returned (.bool true) ∧ Below w.heap.size w w' := by
  obtain ⟨hkl, hok⟩ := hT
  have hmk : ∀ w, (Instr.makeSlice 22 (.int .i64 n) (.int .i64 n)).run Try.prog w = .ok (.slice (some (ad w.heap.size 0)) n n) (w.alloc (.cells (zeros #[.int .i64 0] n) 3)) := fun w => by
    have := run_mk 22 3 _ 1 8 Try.underlying22 I3 n (by omega) (by omega) w
    rw [Nat.mul_one] at this
    exact this
  obtain ⟨wa, wl, wcp, wz, rfl⟩ := row_eta ws
  have HKL : Hid (k = wl) := hkl
  have hkle : k ≤ wl := Nat.le_of_eq hkl
  have hkge : wl ≤ k := Nat.le_of_eq hkl.symm
  have HOK : Hid (∀ x, x < k → OKat n ⟨wa, wl, wcp, wz⟩ R x) := hok
  have HS : Hid (St w y n k (Wd ⟨wa, wl, wcp, wz⟩ dead) (Hd ⟨wa, wl, wcp, wz⟩ R dead) (Rdd R dead)) := S
  have HDD : Hid (DeadA w DB n dead) := hD
  have HT0 : Aside (Tm ⟨wa, wl, wcp, wz⟩ R dead n w 0 ((w.alloc (.cells (zeros #[.int .i64 0] n) 3)).alloc (.cells (zeros #[.int .i64 0] n) 3))) := by
    have b1 : Below w.heap.size w ((w.alloc (.cells (zeros #[.int .i64 0] n) 3)).alloc (.cells (zeros #[.int .i64 0] n) 3)) :=
      ((Below.refl _ _).alloc (Nat.le_refl _) _).alloc (by simp) _
    refine ⟨b1, fun _ => 0, fun _ => 0, (arr_new w n).kept (row := Option.none) (World.grownBy_alloc _ _ _) (by simp), ?_, fun u hu => rfl, fun u hu => ⟨Int.le_refl _, Int.le_refl _⟩⟩
    have := arr_new (w.alloc (.cells (zeros #[.int .i64 0] n) 3)) n
    simpa using this
  clear hkl hok S hD
  go_enter Try.func11, Try.ntmps11
  go_wp2_with fail
  go_loopg [13] k (fun gk s wx => ∃ x : Nat, s = .int .i64 x ∧ x ≤ k ∧ gk = k - x ∧ Aside (Tm ⟨wa, wl, wcp, wz⟩ R dead n w x wx))
  case atStart => exact ⟨0, rfl, Nat.zero_le _, rfl, HT0⟩
  case round =>
    obtain ⟨x, rfl, hx, hgk, HT⟩ := hrel
    clear HT0
    by_cases hlt : x < k
    · obtain ⟨wb, wo, hwa, hwb, hwc⟩ := hw.at_ (by show 0 < wl; omega)
      dsimp only at hwa
      subst hwa
      obtain ⟨b, o, rfl, hbl, hcR⟩ := hR.at_ (by omega)
      have hbel : Hid (Below w.heap.size w wr) := HT.out.1
      have SW : Hid (St wr y n k (Wd ⟨some ⟨wb, wo, Option.none⟩, wl, wcp, wz⟩ dead) (Hd ⟨some ⟨wb, wo, Option.none⟩, wl, wcp, wz⟩ R dead) (Rdd R dead)) := HS.out.below hbel.out
      have DW : Hid (DeadA wr DB n dead) := HDD.out.below hbel.out
      have cw : wr.cell? ⟨wb, wo + x, Option.none⟩ = some (.int .i64 (wz.getD x 0)) := by
        rw [hbel.out.cell (p := ⟨wb, wo + x, Option.none⟩) hwb]; exact hwc x (by show x < wl; omega)
      have cR : wr.cell? ⟨b, o + x, Option.none⟩ = some (.slice (R x).a (R x).len (R x).cap) := by
        rw [hbel.out.cell (p := ⟨b, o + x, Option.none⟩) hbl]; exact hcR x hlt
      have hrx := (hR.rows x hlt).below hbel.out
      obtain ⟨ra, rl, rc, rz, hRx⟩ := row_eta (R x)
      have okx := HOK.out x hlt
      rw [hRx] at cR hrx
      have HRx : Hid (R x = ⟨ra, rl, rc, rz⟩) := hRx
      have hrl := hrx.small
      have hrzl : rz.length = rl := hrx.size
      unfold maxLen at hrl
      dsimp only at cR hrl
      obtain ⟨V, hV⟩ : ∃ V, V = Wd ⟨some ⟨wb, wo, Option.none⟩, wl, wcp, wz⟩ dead x := ⟨_, rfl⟩
      have HV : Hid (V = Wd ⟨some ⟨wb, wo, Option.none⟩, wl, wcp, wz⟩ dead x) := hV
      have hVw : wr.cell? (ad y.IB (x * 6)) = some (.int .i64 V) := by rw [hV]; exact SW.out.wr x hlt
      have hzr : -1 ≤ wz.getD x 0 ∧ wz.getD x 0 < n := ⟨okx.1, okx.2.1⟩
      obtain ⟨zx, hzx⟩ : ∃ z, z = wz.getD x 0 := ⟨_, rfl⟩
      rw [← hzx] at cw hzr
      have HV1 : Hid (V = if 0 ≤ zx ∧ dead zx.toNat = false then zx else -1) := by rw [hzx]; exact hV
      have HRZ : Hid (∀ j, j < rl → 0 ≤ rz.getD j 0 ∧ rz.getD j 0 < n) := by
        have := okx.2.2.2
        rw [hRx] at this
        exact this
      have HVb : V < n := by rw [HV1.out]; split <;> omega
      have HVm : -1 ≤ V := by rw [HV1.out]; split <;> omega
      obtain ⟨hz1, hz2⟩ := hzr
      have hxw : decide ((x : Int) < (wl : Int)) = true := by simp; omega
      clear hV hzx hRx okx hwc hcR
      go_upto_region 8 with fail
      go_cut [47] (fun s wx => wr = wx ∧ s = .bool (decide (0 ≤ V)))
      case first =>
        by_cases hz0 : 0 ≤ zx
        · obtain ⟨q, rfl⟩ := Int.eq_ofNat_of_zero_le hz0
          have cd := DW.out.cell q (by omega)
          have hz0' : decide ((0 : Int) ≤ (q : Int)) = true := by simp
          cases hdq : dead q with
          | true =>
            rw [hdq] at cd
            go_wp2_with fail
            go_meet
            case rel => exact ⟨rfl, by rw [HV1.out]; simp [hdq]⟩
          | false =>
            rw [hdq] at cd
            go_wp2_with fail
            go_meet
            case rel => exact ⟨rfl, by rw [HV1.out]; simp [hdq]⟩
        · have hz0' : decide ((0 : Int) ≤ zx) = false := by simp; omega
          go_wp2_with fail
          go_meet
          case rel => exact ⟨rfl, by rw [HV1.out, if_neg (by omega)]; rfl⟩
      case rest =>
        obtain ⟨rfl, rfl⟩ := hcut
        go_upto_if 47 with fail
        go_cut [15] (fun s wx => wr = wx ∧ s = .int .i64 V)
        case first =>
          by_cases hV0 : 0 ≤ V
          · have hV0' : decide ((0 : Int) ≤ V) = true := by simp; omega
            have hVz : Hid (zx = V) := by
              show zx = V
              have := HV1.out
              by_cases hh : 0 ≤ zx ∧ dead zx.toNat = false
              · rw [if_pos hh] at this; exact this.symm
              · rw [if_neg hh] at this; omega
            rw [hV0']
            go_wp2_with fail
            go_meet
            case rel => exact ⟨rfl, by rw [hVz.out]⟩
          · have hV0' : decide ((0 : Int) ≤ V) = false := by simp; omega
            have hVm : Hid (V = -1) := by show V = -1; omega
            rw [hV0']
            go_wp2_with fail
            go_meet
            case rel => exact ⟨rfl, by rw [hVm.out]⟩
        case rest =>
          obtain ⟨rfl, rfl⟩ := hcut
          go_wp2_with fail
          refine (writer_any y n k x V _ SW.out.fixed hlt hk hVw).mono ?_
          rintro e w1 ⟨rfl, rfl⟩
          go_upto_if 55 with fail
          go_cut [16, 17] (fun s t wx => Aside (Tw ⟨some ⟨wb, wo, Option.none⟩, wl, wcp, wz⟩ R dead n w x rz 0 wx))
          case first =>
            obtain ⟨hbw, hc, sn, A1, A2, hhc, hsn⟩ := HT.out
            by_cases hV0 : 0 ≤ V
            · have hV0' : decide ((0 : Int) ≤ V) = true := by simp; omega
              rw [hV0']
              obtain ⟨q, rfl⟩ := Int.eq_ofNat_of_zero_le hV0
              have hq : q < n := by omega
              have ch1 := A1.cell q hq
              have fh1 := A1.froz q hq
              have hcq := hhc q hq
              have hcl := cnt_le (fun x => (Hd ⟨some ⟨wb, wo, Option.none⟩, wl, wcp, wz⟩ R dead q x).isSome) x
              generalize hh1 : hc q = h1 at *
              have hh0 : 0 ≤ h1 := by omega
              have hh2 : h1 ≤ 65536 := by omega
              have hg1 := grownBy_setCell_ad wr w.heap.size q (.int .i64 (h1 + 1))
              have hb1 : Below w.heap.size w (wr.setCell (ad w.heap.size q) (.int .i64 (h1 + 1))) := hbw.setCell (Nat.le_refl _) _
              have S1 := HS.out.below hb1
              have hHx : Hd ⟨some ⟨wb, wo, Option.none⟩, wl, wcp, wz⟩ R dead q x = some true := by
                have hw0 := HV.out
                have := Hd_X (R := R) (ws := ⟨some ⟨wb, wo, Option.none⟩, wl, wcp, wz⟩) (dead := dead) (x := x) (by rw [← hw0]; omega)
                rw [← hw0] at this
                simpa using this
              have hlk := (S1.held q hq).look x hlt (by omega) true hHx
              have hlk' : (Instr.lookup 41 (.map (some (y.hb q))) (.int .i64 x) true).run Try.prog (wr.setCell (ad w.heap.size q) (.int .i64 (h1 + 1))) = .ok (.tuple #[.string ⟨#[88]⟩, .bool true]) (wr.setCell (ad w.heap.size q) (.int .i64 (h1 + 1))) := hlk
              have HF1 : Hid (Fixed (wr.setCell (ad w.heap.size q) (.int .i64 (h1 + 1))) y n k) := S1.fixed
              have HTw : Aside (Tw ⟨some ⟨wb, wo, Option.none⟩, wl, wcp, wz⟩ R dead n w x rz 0 (wr.setCell (ad w.heap.size q) (.int .i64 (h1 + 1)))) := by
                refine ⟨hb1, _, sn, A1.set q (h1 + 1) hq, A2.other w.heap.size q _ (by omega), fun u hu => ?_, fun u hu => ⟨fun h => by simp [pr, among] at h, fun _ => hsn u hu⟩⟩
                have e0 : pr rz dead 0 u = false := by simp [pr, among]
                rw [e0]
                simp only [Bool.false_eq_true, if_false, Nat.add_zero]
                have hw0 := HV.out
                rw [← hw0]
                by_cases e : u = q
                · subst e; simp; omega
                · rw [if_neg e, if_neg (by omega), hhc u hu]; simp
              clear hlk S1 hHx hg1 hb1 A1 A2 hhc hsn hcq hcl hh1 hbw
              go_wp2_with fail
              refine (held_any y n k q _ HF1.out hq hn).mono ?_
              rintro e w2 ⟨rfl, rfl⟩
              go_wp2_with fail
              go_meet
              case rel => exact HTw
            · have hV0' : decide ((0 : Int) ≤ V) = false := by simp; omega
              rw [hV0']
              have HTw : Aside (Tw ⟨some ⟨wb, wo, Option.none⟩, wl, wcp, wz⟩ R dead n w x rz 0 wr) := by
                refine ⟨hbw, hc, sn, A1, A2, fun u hu => ?_, fun u hu => ⟨fun h => by simp [pr, among] at h, fun _ => hsn u hu⟩⟩
                have e0 : pr rz dead 0 u = false := by simp [pr, among]
                rw [e0]
                simp only [Bool.false_eq_true, if_false, Nat.add_zero]
                have hw0 := HV.out
                rw [← hw0, if_neg (by omega), hhc u hu]; simp
              clear A1 A2 hhc hsn hbw
              go_wp2_with fail
              go_meet
              case rel => exact HTw
          case rest =>
            have HTw := hcut
            clear hcut HT SW DW hbel hVw cw
            have HSC : Hid (St wc y n k (Wd ⟨some ⟨wb, wo, Option.none⟩, wl, wcp, wz⟩ dead) (Hd ⟨some ⟨wb, wo, Option.none⟩, wl, wcp, wz⟩ R dead) (Rdd R dead)) := HS.out.below HTw.out.1
            clear hrx cR HVb HVm hz1 hz2 HV1
            go_wp2_with fail
            refine (readers_any y n k x _ HSC.out.fixed hlt hk).mono ?_
            rintro e w3 ⟨rfl, rfl⟩
            go_wp2_with fail
            go_loopg [19, 20] rl (fun gk s19 s20 wx => ∃ j : Nat, s20 = .int .i64 j ∧ j ≤ rl ∧ s19 = .int .i64 (cnt (pr rz dead j) n : Nat) ∧ gk = rl - j ∧ Aside (Tw ⟨some ⟨wb, wo, Option.none⟩, wl, wcp, wz⟩ R dead n w x rz j wx))
            case atStart => exact ⟨0, rfl, Nat.zero_le _, by rw [show cnt (pr rz dead 0) n = 0 from (cnt_congr n (fun u _ => by simp [pr, among])).trans (cnt_false n)]; rfl, rfl, HTw⟩
            case round =>
              obtain ⟨j, rfl, hj, rfl, hgj, HTj⟩ := hrel
              clear HTw HSC
              have hbj : Hid (Below w.heap.size w wr) := HTj.out.1
              have HSJ : Hid (St wr y n k (Wd ⟨some ⟨wb, wo, Option.none⟩, wl, wcp, wz⟩ dead) (Hd ⟨some ⟨wb, wo, Option.none⟩, wl, wcp, wz⟩ R dead) (Rdd R dead)) := HS.out.below HTj.out.1
              have cRj : wr.cell? ⟨b, o + x, Option.none⟩ = some (.slice ra rl rc) := by
                obtain ⟨b', o', hbo, hbl', hcR⟩ := hR.at_ (by omega)
                simp only [Option.some.injEq, Addr.mk.injEq] at hbo
                obtain ⟨rfl, rfl, _⟩ := hbo
                rw [hbj.out.cell (p := ⟨b, o + x, Option.none⟩) hbl, hcR x hlt, HRx.out]
              have hcn := cnt_le (pr rz dead j) n
              by_cases hjl : j < rl
              · have hrow : IsRow wr ⟨ra, rl, rc, rz⟩ := by rw [← HRx.out]; exact (hR.rows x hlt).below hbj.out
                obtain ⟨b3, o3, hra, hb3, hc3⟩ := hrow.at_ (by show 0 < rl; omega)
                dsimp only at hra
                subst hra
                have hrb := HRZ.out j hjl
                obtain ⟨r, hr⟩ := Int.eq_ofNat_of_zero_le hrb.1
                have crj : wr.cell? ⟨b3, o3 + j, Option.none⟩ = some (.int .i64 (r : Int)) := by rw [← hr]; exact hc3 j hjl
                have hrn : r < n := by omega
                have HRJ : Hid (rz.getD j 0 = (r : Int)) := hr
                have cdr := (HDD.out.below hbj.out).cell r hrn
                obtain ⟨hbw, hc, sn, A1, A2, hhc, hsn⟩ := HTj.out
                have cs1 := A2.cell r hrn
                have fs1 := A2.froz r hrn
                have ch1 := A1.cell r hrn
                have fh1 := A1.froz r hrn
                have hjz : j < rz.length := by omega
                clear hc3 hr hrb hrow
                cases hdr : dead r with
                | true =>
                  rw [hdr] at cdr
                  have HN : Aside (Tw ⟨some ⟨wb, wo, Option.none⟩, wl, wcp, wz⟩ R dead n w x rz (j + 1) wr) := HTj.out.congr (pr_succ_dead rz dead j r hjz HRJ.out hdr)
                  have hce : Hid (cnt (pr rz dead (j + 1)) n = cnt (pr rz dead j) n) := cnt_congr n (fun u _ => pr_succ_dead rz dead j r hjz HRJ.out hdr u)
                  generalize sn r = s1 at *
                  generalize hc r = h1 at *
                  clear hhc hsn A1 A2 hbw
                  go_wp2_with fail
                  go_roundg (rl - (j + 1))
                  case measure => omega
                  case rel => exact ⟨j + 1, by go_num, by omega, by rw [hce.out], rfl, HN⟩
                | false =>
                  rw [hdr] at cdr
                  by_cases hsx : sn r = x + 1
                  · have hpj : pr rz dead j r = true := by
                      cases hp : pr rz dead j r with
                      | true => rfl
                      | false => have := (hsn r hrn).2 hp; omega
                    have HN : Aside (Tw ⟨some ⟨wb, wo, Option.none⟩, wl, wcp, wz⟩ R dead n w x rz (j + 1) wr) := HTj.out.congr (pr_succ_seen rz dead j r hjz HRJ.out hpj)
                    have hce : Hid (cnt (pr rz dead (j + 1)) n = cnt (pr rz dead j) n) := cnt_congr n (fun u _ => pr_succ_seen rz dead j r hjz HRJ.out hpj u)
                    have hsb : (sn r == (x : Int) + 1) = true := by rw [beq_iff_eq]; exact hsx
                    clear hsx hpj hhc hsn A1 A2 hbw
                    generalize sn r = s1 at *
                    generalize hc r = h1 at *
                    go_wp2_with fail
                    go_roundg (rl - (j + 1))
                    case measure => omega
                    case rel => exact ⟨j + 1, by go_num, by omega, by rw [hce.out], rfl, HN⟩
                  · have hpj : pr rz dead j r = false := by
                      cases hp : pr rz dead j r with
                      | false => rfl
                      | true => exact absurd ((hsn r hrn).1 hp) hsx
                    have hamr : among (R x).zs r = true := by rw [HRx.out]; exact among_of rz j r hjz HRJ.out
                    have hHr : Hd ⟨some ⟨wb, wo, Option.none⟩, wl, wcp, wz⟩ R dead r x = some false := Hd_S (HOK.out x hlt) (hR.rows x hlt).size hamr hdr
                    have hRr : Rdd R dead x r = some () := by unfold Rdd; rw [hamr, hdr]; rfl
                    have hcq := hhc r hrn
                    have hcl := cnt_le (fun x => (Hd ⟨some ⟨wb, wo, Option.none⟩, wl, wcp, wz⟩ R dead r x).isSome) x
                    have hsb : (sn r == (x : Int) + 1) = false := by rw [beq_eq_false_iff_ne]; exact hsx
                    have hh0 : 0 ≤ hc r := by omega
                    have hh2 : hc r ≤ 65538 := by rw [hcq]; split <;> split <;> omega
                    have hn1 : w.heap.size ≠ w.heap.size + 1 := by omega
                    generalize hw2 : (wr.setCell (ad (w.heap.size + 1) r) (.int .i64 ((x : Int) + 1))).setCell (ad w.heap.size r) (.int .i64 (hc r + 1)) = w2
                    have hb2 : Below w.heap.size w w2 := by rw [← hw2]; exact (hbw.setCell (by simp) _).setCell (Nat.le_refl _) _
                    have S2 := HS.out.below hb2
                    have lk1 := (S2.rds x hlt).get r hrn (by omega) hRr
                    have lk2' := (S2.held r hrn).look x hlt (by omega) false hHr
                    have lk2 : (Instr.lookup 41 (.map (some (y.hb r))) (.int .i64 x) true).run Try.prog w2 = .ok (.tuple #[.string ⟨#[83]⟩, .bool true]) w2 := lk2'
                    have HF2 : Hid (Fixed w2 y n k) := S2.fixed
                    have hpn := pr_succ_new rz dead j r hjz HRJ.out hdr
                    have HN : Aside (Tw ⟨some ⟨wb, wo, Option.none⟩, wl, wcp, wz⟩ R dead n w x rz (j + 1) w2) := by
                      refine ⟨hb2, fun u => if u = r then hc r + 1 else hc u, fun u => if u = r then (x : Int) + 1 else sn u, ?_, ?_, fun u hu => ?_, fun u hu => ?_⟩
                      · rw [← hw2]; exact (A1.other _ r _ hn1).set r _ hrn
                      · rw [← hw2]; exact (A2.set r _ hrn).other _ r _ hn1.symm
                      · rw [hpn u]
                        by_cases e : u = r
                        · subst e
                          simp only [if_true]
                          rw [hcq, hpj]
                          simp
                        · dsimp only; rw [if_neg e, if_neg e]; exact hhc u hu
                      · rw [hpn u]
                        by_cases e : u = r
                        · subst e; simp
                        · dsimp only; rw [if_neg e, if_neg e]; exact hsn u hu
                    have hce : Hid (cnt (pr rz dead (j + 1)) n = cnt (pr rz dead j) n + 1) := by
                      show cnt (pr rz dead (j + 1)) n = cnt (pr rz dead j) n + 1
                      rw [← cnt_set (pr rz dead j) r n hrn hpj]
                      exact cnt_congr n (fun u _ => hpn u)
                    have HW2 : Hid ((wr.setCell (ad (w.heap.size + 1) r) (.int .i64 ((x : Int) + 1))).setCell (ad w.heap.size r) (.int .i64 (hc r + 1)) = w2) := hw2
                    have ch2 : (wr.setCell (ad (w.heap.size + 1) r) (.int .i64 ((x : Int) + 1))).cell? (ad w.heap.size r) = some (.int .i64 (hc r)) := by
                      rw [World.cell?_setCell_other _ _ _ _ (by simp), ch1]
                    clear hpj hamr hHr hRr hcq hcl hsx lk2' S2 hb2 hpn hhc hsn A1 A2 hbw
                    generalize sn r = s1 at *
                    generalize hc r = h1 at *
                    subst hw2
                    go_wp2_with fail
                    refine (held_any y n k r _ HF2.out hrn hn).mono ?_
                    rintro e w4 ⟨rfl, rfl⟩
                    go_wp2_with fail
                    go_roundg (rl - (j + 1))
                    case measure => omega
                    case rel => exact ⟨j + 1, by go_num, by omega, by rw [hce.out]; go_num, rfl, HN⟩
              · have hje : rz.length ≤ j := by omega
                have hpe : ∀ u, pr rz dead j u = (among (R x).zs u && !dead u) := fun u => by rw [HRx.out]; exact pr_all rz dead j u hje
                have hce : cnt (fun u => (Rdd R dead x u).isSome) n = cnt (pr rz dead j) n := cnt_congr n (fun u _ => by rw [Rdd_some, hpe u])
                have hl1 : ∀ ty, (Builtin.len_ #[43] ty #[.map (some (y.rb x))]).run Try.prog wr = .ok (.int .i64 (cnt (pr rz dead j) n : Nat)) wr := fun ty => by
                  rw [← hce]; exact (HSJ.out.rds x hlt).len ty
                have HN : Aside (Tm ⟨some ⟨wb, wo, Option.none⟩, wl, wcp, wz⟩ R dead n w (x + 1) wr) := by
                  obtain ⟨hbw, hc, sn, A1, A2, hhc, hsn⟩ := HTj.out
                  refine ⟨hbw, hc, sn, A1, A2, fun u hu => ?_, fun u hu => ?_⟩
                  · rw [held_step (HOK.out x hlt) (hR.rows x hlt).size, hhc u hu, hpe u]
                  · cases hp : pr rz dead j u with
                    | true => have := (hsn u hu).1 hp; omega
                    | false => have := (hsn u hu).2 hp; omega
                clear hpe hce
                go_wp2_with fail
                go_roundg (k - (x + 1))
                case measure => omega
                case rel => exact ⟨x + 1, by go_num, by omega, rfl, HN⟩
    · obtain rfl : x = k := by omega
      have hxw : decide ((x : Int) < (wl : Int)) = false := by simp; omega
      go_wp2_with fail
      go_loopg [24] n (fun gk s wx => ∃ u : Nat, s = .int .i64 u ∧ u ≤ n ∧ gk = n - u ∧ Aside (Tm ⟨wa, wl, wcp, wz⟩ R dead n w x wx))
      case atStart => exact ⟨0, rfl, Nat.zero_le _, rfl, HT⟩
      case round =>
        clear HT
        obtain ⟨u, rfl, hu, hgu, HT⟩ := hrel
        by_cases hun : u < n
        · have HSU : Hid (St wr y n x (Wd ⟨wa, wl, wcp, wz⟩ dead) (Hd ⟨wa, wl, wcp, wz⟩ R dead) (Rdd R dead)) := HS.out.below HT.out.1
          obtain ⟨hbw, hc, sn, A1, A2, hhc, hsn⟩ := HT.out
          have ch1 := A1.cell u hun
          rw [hhc u hun] at ch1
          have hq : ∀ m, HeldM (wr.drewN m) (y.hb u) x (Hd ⟨wa, wl, wcp, wz⟩ R dead u) := fun m => (HSU.out.held u hun).kept rfl
          have hl1 : ∀ m ty, (Builtin.len_ #[41] ty #[.map (some (y.hb u))]).run Try.prog (wr.drewN m) = .ok (.int .i64 (cnt (fun x => (Hd ⟨wa, wl, wcp, wz⟩ R dead u x).isSome) x : Nat)) (wr.drewN m) := fun m ty => (hq m).len ty
          have HHC : Hid (∀ m, Calls Try.prog 19 #[.pointer (some (ad y.M 0)), .int .i64 u] (wr.drewN m) fun e w' => e = .returned (.map (some (y.hb u))) ∧ w' = wr.drewN m) := fun m =>
            (held_any y n x u (wr.drewN m) (HSU.out.fixed.kept (Nat.le_refl _) (fun _ _ => rfl)) hun hn).mono fun e w' h => ⟨h.1, h.2.symm⟩
          generalize cnt (fun x => (Hd ⟨wa, wl, wcp, wz⟩ R dead u x).isSome) x = N at *
          have i1 : (u : Int) < (n : Int) := by omega
          have i2 : (0 : Int) ≤ (u : Int) := by omega
          clear hbw A1 A2 hhc hsn hq
          go_wp2_with fail
          go_quiet ((go_at_call 19; exact Calls.quiet_of_same (HHC.out _)))
          go_wp2_with fail
          go_roundg (n - (u + 1))
          case measure => omega
          case rel => exact ⟨u + 1, by go_num, by omega, rfl, by
            obtain ⟨hbw, hc, sn, A1, A2, hhc, hsn⟩ := HT.out
            exact ⟨below_drewN hbw _, hc, sn, A1.kept (row := Option.none) ⟨rfl, rfl, rfl, Nat.le_refl _, fun _ _ _ => rfl⟩ (by simp), A2.kept (row := Option.none) ⟨rfl, rfl, rfl, Nat.le_refl _, fun _ _ _ => rfl⟩ (by simp), hhc, hsn⟩⟩
        · go_wp2_with fail
          go_ret
          exact ⟨rfl, HT.out.1⟩

end Go.Proofs.Qxb6615850a
