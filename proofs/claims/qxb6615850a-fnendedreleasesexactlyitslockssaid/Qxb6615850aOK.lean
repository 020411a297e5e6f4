import Derived.Test.Qxb6615850aBase
namespace Go.Proofs.Qxb6615850a
open Go.RowKit
set_option linter.unusedVariables false

/-- Item x of the table: its holder is one of the n transactions, or none; an X lock stands alone. -/
def OKat (n : Nat) (ws : Row) (R : Nat → Row) (x : Nat) : Prop :=
  -1 ≤ ws.zs.getD x 0 ∧ ws.zs.getD x 0 < n ∧ (0 ≤ ws.zs.getD x 0 → (R x).len = 0) ∧ ∀ i, i < (R x).len → 0 ≤ (R x).zs.getD i 0 ∧ (R x).zs.getD i 0 < n
def TableOK (n : Nat) (ws : Row) (k : Nat) (R : Nat → Row) : Prop := k = ws.len ∧ ∀ x, x < k → OKat n ws R x
def RetOK (n : Nat) (ws : Row) (k : Nat) (R : Nat → Row) (e : Ending) : Prop := ∃ x, e = .returned (.bool x) ∧ (x = true → TableOK n ws k R)
theorem retOK_false {n : Nat} {ws : Row} {k : Nat} {R : Nat → Row} : RetOK n ws k R (.returned (.bool false)) := ⟨false, rfl, fun h => by cases h⟩
theorem retOK_true {n : Nat} {ws : Row} {k : Nat} {R : Nat → Row} (h : TableOK n ws k R) : RetOK n ws k R (.returned (.bool true)) := ⟨true, rfl, fun _ => h⟩

theorem row_eta (r : Row) : ∃ a l c z, r = ⟨a, l, c, z⟩ := ⟨_, _, _, _, rfl⟩

set_option maxHeartbeats 1000000 in
theorem tableOK (n : Nat) (ws : Row) (a : Option Addr) (k c : Nat) (R : Nat → Row) (w : World) (hn : n ≤ 65536) (hw : IsRow w ws) (hR : IsRows w a k R) :
    Calls Try.prog 8 #[.int .i64 n, .slice ws.a ws.len ws.cap, .slice a k c] w fun e w' => RetOK n ws k R e ∧ w' = w := by
  have h2 := hw.small
  have h3 := hR.small
  unfold maxLen at h2 h3
  obtain ⟨wa, wl, wc, wz, rfl⟩ := row_eta ws
  dsimp only at h2
  by_cases hk : k = wl
  case neg =>
    have hk' : ((k : Int) != (wl : Int)) = true := by rw [bne_iff_ne]; omega
    go_enter Try.func8, Try.ntmps8
    go_wp2_with fail
    go_ret
    exact ⟨retOK_false, rfl⟩
  have hk' : ((k : Int) != (wl : Int)) = false := by rw [bne_eq_false_iff_eq]; omega
  have HK : Hid (k = wl) := hk
  have hkle : k ≤ wl := by omega
  have hkge : wl ≤ k := by omega
  clear hk
  go_enter Try.func8, Try.ntmps8
  go_wp2_with fail
  go_loop [7] (fun x => ∃ j : Nat, j ≤ k ∧ x = .int .i64 j ∧ Hid (∀ y, y < j → OKat n ⟨wa, wl, wc, wz⟩ R y)) (fun x => k - (intOf x).toNat)
  case atStart => exact ⟨0, Nat.zero_le _, rfl, fun y hy => absurd hy (Nat.not_lt_zero _)⟩
  case round =>
    obtain ⟨j, hj, rfl, hok⟩ := hrel
    by_cases hlt : j < k
    · obtain ⟨b, o, rfl, hbl, hc⟩ := hR.at_ (by omega)
      obtain ⟨b2, o2, hwa, hbl2, hc2⟩ := hw.at_ (by show 0 < wl; omega)
      dsimp only at hwa
      subst hwa
      have hcj := hc j hlt
      have hcj2 := hc2 j (by show j < wl; omega)
      have hrj := hR.rows j hlt
      obtain ⟨ra, rl, rc, rz, hRj⟩ := row_eta (R j)
      rw [hRj] at hcj hrj
      have hl := hrj.small
      unfold maxLen at hl
      dsimp only at hcj hcj2 hl
      have HRj : Hid (R j = ⟨ra, rl, rc, rz⟩) := hRj
      clear hc hc2 hRj
      go_wp2_with fail
      any_goals (go_ret; exact ⟨retOK_false, rfl⟩)
      all_goals
        go_loop [9] (fun x => ∃ i : Nat, i ≤ rl ∧ x = .int .i64 i ∧ Hid (∀ y, y < i → 0 ≤ rz.getD y 0 ∧ rz.getD y 0 < n)) (fun x => rl - (intOf x).toNat)
        case atStart => exact ⟨0, Nat.zero_le _, rfl, fun y hy => absurd hy (Nat.not_lt_zero _)⟩
        case round =>
          obtain ⟨i, hi, rfl, hoki⟩ := hrel
          by_cases hlti : i < rl
          · obtain ⟨b3, o3, hra, hbl3, hc3⟩ := hrj.at_ (by show 0 < rl; omega)
            dsimp only at hra
            subst hra
            have hci := hc3 i hlti
            dsimp only at hci
            clear hc3
            go_wp2_with fail
            any_goals (go_ret; exact ⟨retOK_false, rfl⟩)
            go_round
            case rel =>
              refine ⟨i + 1, by omega, by go_num, fun y hy => ?_⟩
              by_cases hyi : y = i
              · subst hyi; simp only [List.getD_eq_getElem?_getD]; omega
              · exact hoki.out y (by omega)
            case measure => simp [intOf]; omega
          · go_wp2_with fail
            go_round
            case rel =>
              refine ⟨j + 1, by omega, by go_num, fun y hy => ?_⟩
              by_cases hyj : y = j
              · subst hyj
                unfold OKat
                rw [HRj.out]
                simp only [List.getD_eq_getElem?_getD] at *
                refine ⟨by omega, by omega, fun h0 => ?_, fun z hz => hoki.out z (by show z < i; have : z < rl := hz; omega)⟩
                show rl = 0
                have hz : rl = 0 := by
                  first
                    | omega
                    | exact Int.ofNat.inj (bne_eq_false_iff_eq.1 (by assumption))
                exact hz
              · exact hok.out y (by omega)
            case measure => simp [intOf]; omega
    · go_wp2_with fail
      go_ret
      exact ⟨retOK_true ⟨HK.out, fun y hy => hok.out y (by omega)⟩, rfl⟩

end Go.Proofs.Qxb6615850a
