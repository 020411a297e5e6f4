import Derived.Test.Qxb6615850aSort5
import Derived.Deep.DeepCutAuto
import Derived.Deep.LoopGhost
namespace Go.Proofs.Qxb6615850a
open Go.RowKit
set_option linter.unusedVariables false

/-- In the search of a partition: both indices inside, the row in some order. -/
def PRel (g : Nat) (Env : World → Prop) (W : World) (d : List Int) (a b : Nat) (i j : Value) (ii jj : Nat) (w : World) : Prop :=
  i = .int .i64 ii ∧ j = .int .i64 jj ∧ a + 1 ≤ ii ∧ ii ≤ b ∧ a ≤ jj ∧ jj < b ∧ ∃ d', Perms g Env W d w d'

set_option maxHeartbeats 4000000 in
theorem partitionEqual (g E cap a b p : Nat) (d : List Int) (rv : Value) (ok : Int → Prop) (Env : World → Prop) (C : Cmp g E rv ok Env) (W : World) (hr : Rowz W g d) (he : Env W) (hd : ∀ z ∈ d, ok z)
    (hab : a + 1 < b) (hb : b ≤ d.length) (hp1 : a ≤ p) (hp2 : p < b) (hN : d.length ≤ 1000000) :
    Calls Try.prog 40 #[.slice (some ⟨g, 0, Option.none⟩) d.length cap, .int .i64 a, .int .i64 b, .int .i64 p, .func (.func 27) #[rv] #[]] W fun e w' => RetOf (fun x => a < x ∧ x ≤ b) e ∧ ∃ d', Perms g Env W d w' d' := by
  have HPS : Aside (∃ d', Perms g Env W d W d') := ⟨d, .start hr he⟩
  have HD : Hid (∀ z ∈ d, ok z) := hd
  clear hr he hd
  obtain ⟨b', rfl⟩ : ∃ x, b = x + 1 := ⟨b - 1, by omega⟩
  go_enter Try.func40, Try.ntmps40
  go_wp2_with fail
  obtain ⟨d5, hp5⟩ := HPS.out
  have hl5 := hp5.len
  have e1 := hp5.row.cell a (by omega)
  have e2 := hp5.row.cell p (by omega)
  have f1 := hp5.row.froz a (by omega)
  have f2 := hp5.row.froz p (by omega)
  have HP5 : Aside (Perms g Env W d _ d5) := hp5
  generalize hy1 : d5.getD a 0 = y1 at *
  generalize hy2 : d5.getD p 0 = y2 at *
  have HY1 : Hid (d5.getD a 0 = y1) := hy1
  have HY2 : Hid (d5.getD p 0 = y2) := hy2
  obtain ⟨v5, c5⟩ := cell_kept (p := ⟨g, a, Option.none⟩) (x := .int .i64 y2) e2
  clear hy1 hy2 hp5 HPS
  go_region
  all_goals
    have HPT : Aside (∃ d', Perms g Env W d _ d') := (let ⟨d6, h6⟩ := HP5.out.swapX C a p (by omega) (by omega) HY1 HY2; ⟨d6, h6.drew C⟩)
    clear e1 e2 f1 f2 c5 HP5 HY1 HY2
    go_wp2_with fail
    go_loopg [11, 12] (b' + 1 + b' - (a + 1)) (fun gk i j wx => ∃ ii jj : Nat, i = .int .i64 ii ∧ j = .int .i64 jj ∧ a + 1 ≤ ii ∧ ii ≤ b' + 1 ∧ a ≤ jj ∧ jj < b' + 1 ∧ gk = b' + 1 + jj - ii ∧ Aside (∃ d', Perms g Env W d wx d'))
    case atStart => exact ⟨a + 1, b', by go_num, by go_num, by omega, by omega, by omega, by omega, rfl, HPT⟩
    case round =>
      obtain ⟨ii0, jj0, rfl, rfl, h1, h2, h3, h4, hgk0, HP⟩ := hrel
      clear HPT
      go_wp2_with fail
      go_loopg [11] (b' + 1 - ii0) (fun gk s wx => ∃ q : Nat, s = .int .i64 q ∧ ii0 ≤ q ∧ q ≤ b' + 1 ∧ gk = b' + 1 - q ∧ Aside (∃ d', Perms g Env W d wx d'))
      case atStart => exact ⟨_, rfl, Nat.le_refl _, by omega, rfl, HP⟩
      case round =>
        obtain ⟨q, rfl, hq1, hq2, hgk, HP1⟩ := hrel
        go_wp2_with fail
        go_cut [47] (fun s wx => ∃ c : Bool, s = .bool c ∧ (c = true → q ≤ jj0) ∧ Aside (∃ d', Perms g Env W d wx d'))
        case first =>
          by_cases hg : q ≤ jj0
          · obtain ⟨d1, hp1⟩ := HP1.out
            have HPd : Aside (Perms g Env W d _ d1) := hp1
            have hl1 := hp1.len
            have c1 := hp1.row.cell a (by omega)
            have c2 := hp1.row.cell q (by omega)
            have o1 := hp1.ok HD.out a (by omega)
            have o2 := hp1.ok HD.out q (by omega)
            generalize d1.getD a 0 = x1 at *
            generalize d1.getD q 0 = x2 at *
            have hdec : decide ((q : Int) ≤ (jj0 : Int)) = true := by simp; omega
            have i1 : (a : Int) < (d.length : Int) := by omega
            have i2 : (q : Int) < (d.length : Int) := by omega
            have i3 : (0 : Int) ≤ (a : Int) := by omega
            have i4 : (0 : Int) ≤ (q : Int) := by omega
            clear hp1 HP1
            go_region_held3 (fun w' => w'.cell? ⟨g, a, Option.none⟩ = some (.int .i64 x1) ∧ w'.cell? ⟨g, q, Option.none⟩ = some (.int .i64 x2))
              (first | go_keep | exact ⟨hg1.cell (by assumption) (by simp), hg1.cell (by assumption) (by simp)⟩)
              (first | (go_at_call 27; refine (C.call _ _ _ ?_ o1 o2).mono ?_; (exact (HPd.out.drew C).env); rintro e w1 ⟨⟨r, rfl⟩, hg1⟩))
            have HQ : Aside (∃ d', Perms g Env W d w1 d') := ⟨d1, (HPd.out.drew C).grow C hg1⟩
            clear c1 c2 hg1
            go_wp2_with fail
            go_meet
            case rel => exact ⟨_, rfl, fun _ => hg, HQ⟩
          · have hdec : decide ((q : Int) ≤ (jj0 : Int)) = false := by simp; omega
            go_quiet (fail)
            go_wp2_with fail
            go_meet
            case rel => exact ⟨false, rfl, (fun h => by cases h), by obtain ⟨d1, hp1⟩ := HP1.out; exact ⟨d1, hp1.drewN C _⟩⟩
        case rest =>
          obtain ⟨c, rfl, hc, HP2⟩ := hcut
          cases c with
          | true =>
            have hc' := hc rfl
            clear hc
            go_wp2_with fail
            go_roundg (b' + 1 - (q + 1))
            case measure => omega
            case rel => exact ⟨q + 1, by go_num, by omega, by omega, rfl, HP2⟩
          | false =>
            clear hc
            have HP : Aside (∃ d', Perms g Env W d _ d') := HP2
            clear HP1 HP2 hgk
            generalize hZ : q = ii1 at *
            clear hZ
            go_wp2_with fail
            go_loopg [12] jj0 (fun gk s wx => ∃ q : Nat, s = .int .i64 q ∧ a ≤ q ∧ q ≤ jj0 ∧ gk = q ∧ Aside (∃ d', Perms g Env W d wx d'))
            case atStart => exact ⟨_, rfl, by omega, Nat.le_refl _, rfl, HP⟩
            case round =>
              obtain ⟨q, rfl, hq1, hq2, hgk, HP1⟩ := hrel
              go_wp2_with fail
              go_cut [65] (fun s wx => ∃ c : Bool, s = .bool c ∧ (c = true → ii1 ≤ q) ∧ Aside (∃ d', Perms g Env W d wx d'))
              case first =>
                by_cases hg : ii1 ≤ q
                · obtain ⟨d1, hp1⟩ := HP1.out
                  have HPd : Aside (Perms g Env W d _ d1) := hp1
                  have hl1 := hp1.len
                  have c1 := hp1.row.cell a (by omega)
                  have c2 := hp1.row.cell q (by omega)
                  have o1 := hp1.ok HD.out a (by omega)
                  have o2 := hp1.ok HD.out q (by omega)
                  generalize d1.getD a 0 = x1 at *
                  generalize d1.getD q 0 = x2 at *
                  have hdec : decide ((ii1 : Int) ≤ (q : Int)) = true := by simp; omega
                  have i1 : (a : Int) < (d.length : Int) := by omega
                  have i2 : (q : Int) < (d.length : Int) := by omega
                  have i3 : (0 : Int) ≤ (a : Int) := by omega
                  have i4 : (0 : Int) ≤ (q : Int) := by omega
                  clear hp1 HP1
                  go_region_held3 (fun w' => w'.cell? ⟨g, a, Option.none⟩ = some (.int .i64 x1) ∧ w'.cell? ⟨g, q, Option.none⟩ = some (.int .i64 x2))
                    (first | go_keep | exact ⟨hg1.cell (by assumption) (by simp), hg1.cell (by assumption) (by simp)⟩)
                    (first | (go_at_call 27; refine (C.call _ _ _ ?_ o1 o2).mono ?_; (exact (HPd.out.drew C).env); rintro e w1 ⟨⟨r, rfl⟩, hg1⟩))
                  have HQ : Aside (∃ d', Perms g Env W d w1 d') := ⟨d1, (HPd.out.drew C).grow C hg1⟩
                  clear c1 c2 hg1
                  go_wp2_with fail
                  go_meet
                  case rel => exact ⟨_, rfl, fun _ => hg, HQ⟩
                · have hdec : decide ((ii1 : Int) ≤ (q : Int)) = false := by simp; omega
                  go_quiet (fail)
                  go_wp2_with fail
                  go_meet
                  case rel => exact ⟨false, rfl, (fun h => by cases h), by obtain ⟨d1, hp1⟩ := HP1.out; exact ⟨d1, hp1.drewN C _⟩⟩
              case rest =>
                obtain ⟨c, rfl, hc, HP2⟩ := hcut
                cases c with
                | true =>
                  have hc' := hc rfl
                  clear hc
                  obtain ⟨q, rfl⟩ : ∃ p, q = p + 1 := ⟨q - 1, by omega⟩
                  go_wp2_with fail
                  go_roundg q
                  case measure => omega
                  case rel => exact ⟨q, by go_num, by omega, by omega, rfl, HP2⟩
                | false =>
                  clear hc
                  have HPS : Aside (∃ d', Perms g Env W d _ d') := HP2
                  clear HP1 HP2
                  by_cases hgt : q < ii1
                  · go_wp2_with fail
                    go_ret
                    exact ⟨⟨ii1, rfl, by omega, by omega⟩, HPS.out⟩
                  · obtain ⟨q', rfl⟩ : ∃ p, q = p + 1 := ⟨q - 1, by omega⟩
                    go_wp2_with fail
                    obtain ⟨d5, hp5⟩ := HPS.out
                    have hl5 := hp5.len
                    have e1 := hp5.row.cell ii1 (by omega)
                    have e2 := hp5.row.cell (q' + 1) (by omega)
                    have f1 := hp5.row.froz ii1 (by omega)
                    have f2 := hp5.row.froz (q' + 1) (by omega)
                    have HP5 : Aside (Perms g Env W d _ d5) := hp5
                    generalize hy1 : d5.getD ii1 0 = y1 at *
                    generalize hy2 : d5.getD (q' + 1) 0 = y2 at *
                    have HY1 : Hid (d5.getD ii1 0 = y1) := hy1
                    have HY2 : Hid (d5.getD (q' + 1) 0 = y2) := hy2
                    obtain ⟨v5, c5⟩ := cell_kept (p := ⟨g, ii1, Option.none⟩) (x := .int .i64 y2) e2
                    clear hy1 hy2 hp5 HPS
                    go_region
                    all_goals
                      have HPT : Aside (∃ d', Perms g Env W d _ d') := (let ⟨d6, h6⟩ := HP5.out.swapX C ii1 (q' + 1) (by omega) (by omega) HY1 HY2; ⟨d6, h6.drew C⟩)
                      clear e1 e2 f1 f2 c5 HP5 HY1 HY2
                      go_wp2_with fail
                      go_roundg (b' + 1 + q' - (ii1 + 1))
                      case measure => omega
                      case rel => exact ⟨ii1 + 1, q', by go_num, by go_num, by omega, by omega, by omega, by omega, by omega, HPT⟩

end Go.Proofs.Qxb6615850a
