import Derived.Test.Qxb6615850aSort7
namespace Go.Proofs.Qxb6615850a
open Go.RowKit
set_option linter.unusedVariables false

set_option maxRecDepth 100000 in
set_option maxHeartbeats 8000000 in
theorem partialInsertion (g E cap a b : Nat) (d : List Int) (rv : Value) (ok : Int → Prop) (Env : World → Prop) (C : Cmp g E rv ok Env) (W : World) (hr : Rowz W g d) (he : Env W) (hd : ∀ z ∈ d, ok z)
    (hab : a < b) (hb : b ≤ d.length) (hN : d.length ≤ 1000000) :
    Calls Try.prog 39 #[.slice (some ⟨g, 0, Option.none⟩) d.length cap, .int .i64 a, .int .i64 b, .func (.func 27) #[rv] #[]] W fun e w' => RetB e ∧ ∃ d', Perms g Env W d w' d' := by
  have HPS : Aside (∃ d', Perms g Env W d W d') := ⟨d, .start hr he⟩
  have HD : Hid (∀ z ∈ d, ok z) := hd
  clear hr he hd
  go_enter Try.func39, Try.ntmps39
  go_wp2_with fail
  go_loopg [9, 10] 5 (fun gk s t wx => ∃ i k : Nat, s = .int .i64 i ∧ t = .int .i64 k ∧ a + 1 ≤ i ∧ i ≤ b ∧ k ≤ 5 ∧ gk = 5 - k ∧ Aside (∃ d', Perms g Env W d wx d'))
  case atStart => exact ⟨a + 1, 0, by go_num, by go_num, by omega, by omega, by omega, rfl, HPS⟩
  case round =>
    clear HPS
    obtain ⟨i0, k0, rfl, rfl, h1, h2, h3, hgk0, HP⟩ := hrel
    by_cases hk5 : k0 < 5
    · have hk5' : decide ((k0 : Int) < 5) = true := by simp; omega
      go_wp2_with fail
      go_loopg [9] (b - i0) (fun gk s wx => ∃ q : Nat, s = .int .i64 q ∧ i0 ≤ q ∧ q ≤ b ∧ gk = b - q ∧ Aside (∃ d', Perms g Env W d wx d'))
      case atStart => exact ⟨_, rfl, Nat.le_refl _, by omega, rfl, HP⟩
      case round =>
        obtain ⟨q, rfl, hq1, hq2, hgk, HP1⟩ := hrel
        go_wp2_with fail
        go_cut [36] (fun s wx => ∃ c : Bool, s = .bool c ∧ (c = true → q < b) ∧ Aside (∃ d', Perms g Env W d wx d'))
        case first =>
          by_cases hg : q < b
          · obtain ⟨d1, hp1⟩ := HP1.out
            have HPd : Aside (Perms g Env W d _ d1) := hp1
            have hl1 := hp1.len
            have c1 := hp1.row.cell q (by omega)
            have c2 := hp1.row.cell (q - 1) (by omega)
            have o1 := hp1.ok HD.out q (by omega)
            have o2 := hp1.ok HD.out (q - 1) (by omega)
            generalize hx1 : d1.getD q 0 = x1 at *
            generalize hx2 : d1.getD (q - 1) 0 = x2 at *
            have HX1 : Hid (d1.getD q 0 = x1) := hx1
            have HX2 : Hid (d1.getD (q - 1) 0 = x2) := hx2
            clear hx1 hx2
            have hdec : decide ((q : Int) < (b : Int)) = true := by simp; omega
            have i1 : (q : Int) < (d.length : Int) := by omega
            have i2 : (q : Int) - 1 < (d.length : Int) := by omega
            have i3 : (0 : Int) ≤ (q : Int) := by omega
            have i4 : (0 : Int) ≤ (q : Int) - 1 := by omega
            have i5 : (1 : Int) ≤ (q : Int) := by omega
            have i6 : 1 ≤ q := by omega
            have i7 : 0 < q := by omega
            have k1 : IntKind.i64.wrap ((q : Int) - 1) = (q : Int) - 1 := wrapId _ (by omega) (by omega)
            clear hp1 HP1
            go_region_held3 (fun w' => w'.cell? ⟨g, q, Option.none⟩ = some (.int .i64 x1) ∧ w'.cell? ⟨g, q - 1, Option.none⟩ = some (.int .i64 x2))
              (first | go_keep | exact ⟨hg1.cell (by assumption) (by simp), hg1.cell (by assumption) (by simp)⟩)
              (first | (go_at_call 27; refine (C.call _ _ _ ?_ o1 o2).mono ?_; (exact (HPd.out.drew C).env); rintro e w1 ⟨⟨r, rfl⟩, hg1⟩))
            have HQ1 : Aside (Perms g Env W d w1 d1) := (HPd.out.drew C).grow C hg1
            have HQ : Aside (∃ d', Perms g Env W d w1 d') := ⟨d1, HQ1.out⟩
            clear c1 c2 hg1 k1
            go_wp2_with fail
            go_meet
            case rel => exact ⟨_, rfl, fun _ => hg, HQ⟩
          · have hdec : decide ((q : Int) < (b : Int)) = false := by simp; omega
            go_quiet (fail)
            go_wp2_with fail
            go_meet
            case rel => exact ⟨false, rfl, (fun h => by cases h), by obtain ⟨d1, hp1⟩ := HP1.out; exact ⟨d1, hp1.drewN C _⟩⟩
        case rest =>
          obtain ⟨c, rfl, hc, HP2⟩ := hcut
          cases c with
          | true =>
            have hc' := hc rfl
            clear hc
            go_wp2_with fail
            go_roundg (b - (q + 1))
            case measure => omega
            case rel => exact ⟨q + 1, by go_num, by omega, by omega, rfl, HP2⟩
          | false =>
            clear hc HP1
            have HPS : Aside (∃ d', Perms g Env W d _ d') := HP2
            clear HP2
            by_cases hqb : q = b
            · have hqe : ((q : Int) == (b : Int)) = true := by rw [beq_iff_eq]; omega
              go_wp2_with fail
              go_ret
              exact ⟨retB _, HPS.out⟩
            have hqe : ((q : Int) == (b : Int)) = false := by rw [beq_eq_false_iff_ne]; omega
            have hqlt : q < b := by omega
            clear hqb
            by_cases h50 : b - a < 50
            · go_wp2_with fail
              go_ret
              exact ⟨retB _, HPS.out⟩
            have h50' : decide ((b : Int) - (a : Int) < 50) = false := by simp; omega
            go_wp2_with fail
            obtain ⟨d5, hp5⟩ := HPS.out
            have hl5 := hp5.len
            have e1 := hp5.row.cell q (by omega)
            have e2 := hp5.row.cell (q - 1) (by omega)
            have f1 := hp5.row.froz q (by omega)
            have f2 := hp5.row.froz (q - 1) (by omega)
            have HP5 : Aside (Perms g Env W d _ d5) := hp5
            generalize hy1 : d5.getD q 0 = y1 at *
            generalize hy2 : d5.getD (q - 1) 0 = y2 at *
            have HY1 : Hid (d5.getD q 0 = y1) := hy1
            have HY2 : Hid (d5.getD (q - 1) 0 = y2) := hy2
            obtain ⟨v5, c5⟩ := cell_kept (p := ⟨g, q, Option.none⟩) (x := .int .i64 y2) e2
            clear hy1 hy2 hp5 HPS
            go_region
            all_goals
              have HPT : Aside (∃ d', Perms g Env W d _ d') := (let ⟨d6, h6⟩ := HP5.out.swapX C q (q - 1) (by omega) (by omega) HY1 HY2; ⟨d6, h6.drew C⟩)
              clear e1 e2 f1 f2 c5 HP5 HY1 HY2
              have HP : Aside (∃ d', Perms g Env W d _ d') := HPT
              clear HPT
              go_upto_if 65 with fail
              go_cut [11] (fun s wx => Aside (∃ d', Perms g Env W d wx d'))
              case first =>
                by_cases h2a : 2 ≤ q - a
                · have h2a' : decide ((2 : Int) ≤ (q : Int) - (a : Int)) = true := by simp; omega
                  rw [h2a']
                  go_wp2_with fail
                  go_loopg [11] (q - 1) (fun gk s wx => ∃ j : Nat, s = .int .i64 j ∧ j < q ∧ gk = j ∧ Aside (∃ d', Perms g Env W d wx d'))
                  case atStart => exact ⟨q - 1, by go_num, by omega, rfl, HP⟩
                  case round =>
                    obtain ⟨j, rfl, hj, hgj, HP1⟩ := hrel
                    by_cases hj1 : 1 ≤ j
                    · go_wp2_with fail
                      obtain ⟨d1, hp1⟩ := HP1.out
                      have HPd : Aside (Perms g Env W d _ d1) := hp1
                      have hl1 := hp1.len
                      have c1 := hp1.row.cell j (by omega)
                      have c2 := hp1.row.cell (j - 1) (by omega)
                      have o1 := hp1.ok HD.out j (by omega)
                      have o2 := hp1.ok HD.out (j - 1) (by omega)
                      generalize hx1 : d1.getD j 0 = x1 at *
                      generalize hx2 : d1.getD (j - 1) 0 = x2 at *
                      have HX1 : Hid (d1.getD j 0 = x1) := hx1
                      have HX2 : Hid (d1.getD (j - 1) 0 = x2) := hx2
                      clear hx1 hx2
                      have i1 : (j : Int) < (d.length : Int) := by omega
                      have i2 : (j : Int) - 1 < (d.length : Int) := by omega
                      have i3 : (0 : Int) ≤ (j : Int) := by omega
                      have i4 : (0 : Int) ≤ (j : Int) - 1 := by omega
                      have i5 : (1 : Int) ≤ (j : Int) := by omega
                      have i6 : 1 ≤ j := by omega
                      have i7 : 0 < j := by omega
                      have k1 : IntKind.i64.wrap ((j : Int) - 1) = (j : Int) - 1 := wrapId _ (by omega) (by omega)
                      clear hp1 HP1
                      go_region_held3 (fun w' => w'.cell? ⟨g, j, Option.none⟩ = some (.int .i64 x1) ∧ w'.cell? ⟨g, j - 1, Option.none⟩ = some (.int .i64 x2))
                        (first | go_keep | exact ⟨hg1.cell (by assumption) (by simp), hg1.cell (by assumption) (by simp)⟩)
                        (first | (go_at_call 27; refine (C.call _ _ _ ?_ o1 o2).mono ?_; (exact (HPd.out.drew C).env); rintro e w1 ⟨⟨r, rfl⟩, hg1⟩))
                      have HQ1 : Aside (Perms g Env W d w1 d1) := (HPd.out.drew C).grow C hg1
                      have HQ : Aside (∃ d', Perms g Env W d w1 d') := ⟨d1, HQ1.out⟩
                      clear c1 c2 hg1 k1
                      go_wp2_with fail
                      · go_meet
                        case rel => exact HQ
                      · clear HQ
                        have e1 := HQ1.out.row.cell j (by omega)
                        have e2 := HQ1.out.row.cell (j - 1) (by omega)
                        have f1 := HQ1.out.row.froz j (by omega)
                        have f2 := HQ1.out.row.froz (j - 1) (by omega)
                        rw [HX1.out] at e1
                        rw [HX2.out] at e2
                        obtain ⟨v5, c5⟩ := cell_kept (p := ⟨g, j, Option.none⟩) (x := .int .i64 x2) e2
                        go_region
                        all_goals
                          have HPT : Aside (∃ d', Perms g Env W d _ d') := (let ⟨d6, h6⟩ := HQ1.out.swapX C j (j - 1) (by omega) (by omega) HX1 HX2; ⟨d6, h6.drew C⟩)
                          clear e1 e2 f1 f2 c5 HQ1 HX1 HX2
                          go_wp2_with fail
                          go_roundg (j - 1)
                          case measure => omega
                          case rel => exact ⟨j - 1, by go_num, by omega, rfl, HPT⟩
                    · go_wp2_with fail
                      go_meet
                      case rel => exact HP1
                · have h2a' : decide ((2 : Int) ≤ (q : Int) - (a : Int)) = false := by simp; omega
                  go_wp2_with fail
                  go_meet
                  case rel => exact HP
              case rest =>
                have HP := hcut
                clear hcut
                by_cases h2b : 2 ≤ b - q
                · have h2b' : decide ((2 : Int) ≤ (b : Int) - (q : Int)) = true := by simp; omega
                  go_wp2_with fail
                  go_loopg [12] (b - (q + 1)) (fun gk s wx => ∃ j : Nat, s = .int .i64 j ∧ q < j ∧ j ≤ b ∧ gk = b - j ∧ Aside (∃ d', Perms g Env W d wx d'))
                  case atStart => exact ⟨q + 1, by go_num, by omega, by omega, rfl, HP⟩
                  case round =>
                    obtain ⟨j, rfl, hj, hj2, hgj, HP1⟩ := hrel
                    by_cases hj1 : j < b
                    · go_wp2_with fail
                      obtain ⟨d1, hp1⟩ := HP1.out
                      have HPd : Aside (Perms g Env W d _ d1) := hp1
                      have hl1 := hp1.len
                      have c1 := hp1.row.cell j (by omega)
                      have c2 := hp1.row.cell (j - 1) (by omega)
                      have o1 := hp1.ok HD.out j (by omega)
                      have o2 := hp1.ok HD.out (j - 1) (by omega)
                      generalize hx1 : d1.getD j 0 = x1 at *
                      generalize hx2 : d1.getD (j - 1) 0 = x2 at *
                      have HX1 : Hid (d1.getD j 0 = x1) := hx1
                      have HX2 : Hid (d1.getD (j - 1) 0 = x2) := hx2
                      clear hx1 hx2
                      have i1 : (j : Int) < (d.length : Int) := by omega
                      have i2 : (j : Int) - 1 < (d.length : Int) := by omega
                      have i3 : (0 : Int) ≤ (j : Int) := by omega
                      have i4 : (0 : Int) ≤ (j : Int) - 1 := by omega
                      have i5 : (1 : Int) ≤ (j : Int) := by omega
                      have i6 : 1 ≤ j := by omega
                      have i7 : 0 < j := by omega
                      have k1 : IntKind.i64.wrap ((j : Int) - 1) = (j : Int) - 1 := wrapId _ (by omega) (by omega)
                      clear hp1 HP1
                      go_region_held3 (fun w' => w'.cell? ⟨g, j, Option.none⟩ = some (.int .i64 x1) ∧ w'.cell? ⟨g, j - 1, Option.none⟩ = some (.int .i64 x2))
                        (first | go_keep | exact ⟨hg1.cell (by assumption) (by simp), hg1.cell (by assumption) (by simp)⟩)
                        (first | (go_at_call 27; refine (C.call _ _ _ ?_ o1 o2).mono ?_; (exact (HPd.out.drew C).env); rintro e w1 ⟨⟨r, rfl⟩, hg1⟩))
                      have HQ1 : Aside (Perms g Env W d w1 d1) := (HPd.out.drew C).grow C hg1
                      have HQ : Aside (∃ d', Perms g Env W d w1 d') := ⟨d1, HQ1.out⟩
                      clear c1 c2 hg1 k1
                      go_wp2_with fail
                      · go_roundg (5 - (k0 + 1))
                        case measure => omega
                        case rel => exact ⟨q, k0 + 1, rfl, by go_num, by omega, by omega, by omega, rfl, HQ⟩
                      · clear HQ
                        have e1 := HQ1.out.row.cell j (by omega)
                        have e2 := HQ1.out.row.cell (j - 1) (by omega)
                        have f1 := HQ1.out.row.froz j (by omega)
                        have f2 := HQ1.out.row.froz (j - 1) (by omega)
                        rw [HX1.out] at e1
                        rw [HX2.out] at e2
                        obtain ⟨v5, c5⟩ := cell_kept (p := ⟨g, j, Option.none⟩) (x := .int .i64 x2) e2
                        go_region
                        all_goals
                          have HPT : Aside (∃ d', Perms g Env W d _ d') := (let ⟨d6, h6⟩ := HQ1.out.swapX C j (j - 1) (by omega) (by omega) HX1 HX2; ⟨d6, h6.drew C⟩)
                          clear e1 e2 f1 f2 c5 HQ1 HX1 HX2
                          go_wp2_with fail
                          go_roundg (b - (j + 1))
                          case measure => omega
                          case rel => exact ⟨j + 1, by go_num, by omega, by omega, rfl, HPT⟩
                    · go_wp2_with fail
                      go_roundg (5 - (k0 + 1))
                      case measure => omega
                      case rel => exact ⟨q, k0 + 1, rfl, by go_num, by omega, by omega, by omega, rfl, HP1⟩
                · have h2b' : decide ((2 : Int) ≤ (b : Int) - (q : Int)) = false := by simp; omega
                  go_wp2_with fail
                  go_roundg (5 - (k0 + 1))
                  case measure => omega
                  case rel => exact ⟨q, k0 + 1, rfl, by go_num, by omega, by omega, by omega, rfl, HP⟩
    · go_wp2_with fail
      go_ret
      exact ⟨retB _, HP.out⟩

end Go.Proofs.Qxb6615850a
