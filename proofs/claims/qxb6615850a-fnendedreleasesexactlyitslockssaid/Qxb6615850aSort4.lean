import Derived.Test.Qxb6615850aSort3
namespace Go.Proofs.Qxb6615850a
open Go.RowKit
set_option linter.unusedVariables false

theorem Perms.cellZ {g : Nat} {Env : World → Prop} {W w' : World} {d d' : List Int} (h : Perms g Env W d w' d') (z : Int) (h0 : 0 ≤ z) (h1 : z < d.length) :
    w'.cell? ⟨g, z.toNat, Option.none⟩ = some (.int .i64 (d'.getD z.toNat 0)) := h.row.cell _ (by rw [h.len]; omega)
theorem Perms.frozZ {g : Nat} {Env : World → Prop} {W w' : World} {d d' : List Int} (h : Perms g Env W d w' d') (z : Int) (h0 : 0 ≤ z) (h1 : z < d.length) :
    w'.frozen? ⟨g, z.toNat, Option.none⟩ = false := h.row.froz _ (by rw [h.len]; omega)
theorem Perms.okZ {g : Nat} {Env : World → Prop} {W w' : World} {d d' : List Int} (h : Perms g Env W d w' d') {ok : Int → Prop} (hd : ∀ z ∈ d, ok z) (z : Int) (h0 : 0 ≤ z) (h1 : z < d.length) : ok (d'.getD z.toNat 0) := h.ok hd _ (by omega)

set_option maxHeartbeats 2000000 in
theorem siftDown (g E cap lo hi f : Nat) (d : List Int) (rv : Value) (ok : Int → Prop) (Env : World → Prop) (C : Cmp g E rv ok Env) (W : World) (hr : Rowz W g d) (he : Env W) (hd : ∀ z ∈ d, ok z)
    (hlo : lo ≤ 1000000) (hf : f + hi ≤ d.length) (hN : d.length ≤ 1000000) :
    Calls Try.prog 44 #[.slice (some ⟨g, 0, Option.none⟩) d.length cap, .int .i64 lo, .int .i64 hi, .int .i64 f, .func (.func 27) #[rv] #[]] W fun e w' => e = .returned (.tuple #[]) ∧ ∃ d', Perms g Env W d w' d' := by
  have hst : Perms g Env W d W d := .start hr he
  have HD : Hid (∀ z ∈ d, ok z) := hd
  clear hr he hd
  go_enter Try.func44, Try.ntmps44
  go_wp2_with fail
  go_loopw [10] (fun i w => ∃ (r : Nat) (d' : List Int), i = .int .i64 r ∧ r ≤ 1000000 ∧ Perms g Env W d w d') (fun i _ => hi - (intOf i).toNat)
  case atStart => exact ⟨lo, d, rfl, hlo, hst⟩
  case round =>
    obtain ⟨r, d1, rfl, hr6, hp⟩ := hrel
    have HP : Hid (Perms g Env W d _ d1) := hp
    clear hp
    by_cases hc : hi ≤ 2 * r + 1
    · go_wp2_with fail
      go_end0
      exact ⟨rfl, d1, HP.out⟩
    by_cases hc2 : 2 * r + 2 < hi
    · have hl1 := HP.out.len
      have c1 := HP.out.cellZ ((f : Int) + (2 * (r : Int) + 1)) (by omega) (by omega)
      have c2 := HP.out.cellZ ((f : Int) + (2 * (r : Int) + 1) + 1) (by omega) (by omega)
      have o1 := HP.out.okZ HD.out ((f : Int) + (2 * (r : Int) + 1)) (by omega) (by omega)
      have o2 := HP.out.okZ HD.out ((f : Int) + (2 * (r : Int) + 1) + 1) (by omega) (by omega)
      generalize hx1 : d1.getD ((f : Int) + (2 * (r : Int) + 1)).toNat 0 = x1 at *
      have HX1 : Hid (d1.getD ((f : Int) + (2 * (r : Int) + 1)).toNat 0 = x1) := hx1
      clear hx1
      generalize d1.getD ((f : Int) + (2 * (r : Int) + 1) + 1).toNat 0 = x2 at *
      have hdec : decide (2 * (r : Int) + 1 + 1 < (hi : Int)) = true := by simp; omega
      have i1 : (f : Int) + (2 * (r : Int) + 1) < (d.length : Int) := by omega
      have i2 : (f : Int) + (2 * (r : Int) + 1) + 1 < (d.length : Int) := by omega
      have i3 : (0 : Int) ≤ (f : Int) + (2 * (r : Int) + 1) := by omega
      have i4 : (0 : Int) ≤ (f : Int) + (2 * (r : Int) + 1) + 1 := by omega
      have k1 : IntKind.i64.wrap ((f : Int) + (2 * (r : Int) + 1)) = (f : Int) + (2 * (r : Int) + 1) := wrapId _ (by omega) (by omega)
      have k2 : IntKind.i64.wrap ((f : Int) + (2 * (r : Int) + 1) + 1) = (f : Int) + (2 * (r : Int) + 1) + 1 := wrapId _ (by omega) (by omega)
      have k3 : IntKind.i64.wrap (2 * (r : Int) + 1 + 1) = 2 * (r : Int) + 1 + 1 := wrapId _ (by omega) (by omega)
      go_wp2_with fail
      go_region_held3 (fun w' => w'.cell? ⟨g, ((f : Int) + (2 * (r : Int) + 1)).toNat, Option.none⟩ = some (.int .i64 x1) ∧ w'.cell? ⟨g, ((f : Int) + (2 * (r : Int) + 1) + 1).toNat, Option.none⟩ = some (.int .i64 x2))
        (first | go_keep | exact ⟨hg1.cell (by assumption) (by simp), hg1.cell (by assumption) (by simp)⟩)
        (first | (go_at_call 27; refine (C.call _ _ _ ?_ o1 o2).mono ?_; (exact (HP.out.drew C).env); rintro e w1 ⟨⟨rr, rfl⟩, hg1⟩))
      have HP3 : Hid (Perms g Env W d w1 d1) := (HP.out.drew C).grow C hg1
      clear c1 c2 hg1 k1 k2 k3 i1 i2 i3 i4
      go_wp2_with fail
      · have c3 := HP3.out.cellZ ((f : Int) + (r : Int)) (by omega) (by omega)
        have c4 := HP3.out.cellZ ((f : Int) + (2 * (r : Int) + 1 + 1)) (by omega) (by omega)
        have f3 := HP3.out.frozZ ((f : Int) + (r : Int)) (by omega) (by omega)
        have f4 := HP3.out.frozZ ((f : Int) + (2 * (r : Int) + 1 + 1)) (by omega) (by omega)
        have o3 := HP3.out.okZ HD.out ((f : Int) + (r : Int)) (by omega) (by omega)
        have o4 := HP3.out.okZ HD.out ((f : Int) + (2 * (r : Int) + 1 + 1)) (by omega) (by omega)
        generalize hy1 : d1.getD ((f : Int) + (r : Int)).toNat 0 = y1 at *
        generalize hy2 : d1.getD ((f : Int) + (2 * (r : Int) + 1 + 1)).toNat 0 = y2 at *
        have HY1 : Hid (d1.getD ((f : Int) + (r : Int)).toNat 0 = y1) := hy1
        have HY2 : Hid (d1.getD ((f : Int) + (2 * (r : Int) + 1 + 1)).toNat 0 = y2) := hy2
        clear hy1 hy2
        have j1 : (f : Int) + (r : Int) < (d.length : Int) := by omega
        have j2 : (f : Int) + (2 * (r : Int) + 1 + 1) < (d.length : Int) := by omega
        have j3 : (0 : Int) ≤ (f : Int) + (r : Int) := by omega
        have j4 : (0 : Int) ≤ (f : Int) + (2 * (r : Int) + 1 + 1) := by omega
        have l1 : IntKind.i64.wrap ((f : Int) + (r : Int)) = (f : Int) + (r : Int) := wrapId _ (by omega) (by omega)
        have l2 : IntKind.i64.wrap ((f : Int) + (2 * (r : Int) + 1 + 1)) = (f : Int) + (2 * (r : Int) + 1 + 1) := wrapId _ (by omega) (by omega)
        go_region_held3 (fun w' => w'.cell? ⟨g, ((f : Int) + (r : Int)).toNat, Option.none⟩ = some (.int .i64 y1) ∧ w'.cell? ⟨g, ((f : Int) + (2 * (r : Int) + 1 + 1)).toNat, Option.none⟩ = some (.int .i64 y2))
          (first | go_keep | exact ⟨hg2.cell (by assumption) (by simp), hg2.cell (by assumption) (by simp)⟩)
          (first | (go_at_call 27; refine (C.call _ _ _ ?_ o3 o4).mono ?_; (exact (HP3.out.drew C).env); rintro e w2 ⟨⟨rr2, rfl⟩, hg2⟩))
        have HQ : Hid (Perms g Env W d w2 d1) := (HP3.out.drew C).grow C hg2
        have e3 := HQ.out.cellZ ((f : Int) + (r : Int)) (by omega) (by omega)
        have e4 := HQ.out.cellZ ((f : Int) + (2 * (r : Int) + 1 + 1)) (by omega) (by omega)
        have g3 := HQ.out.frozZ ((f : Int) + (r : Int)) (by omega) (by omega)
        have g4 := HQ.out.frozZ ((f : Int) + (2 * (r : Int) + 1 + 1)) (by omega) (by omega)
        rw [HY1.out] at e3
        rw [HY2.out] at e4
        have ne1 : ¬ ((f : Int) + (r : Int)).toNat = ((f : Int) + (2 * (r : Int) + 1 + 1)).toNat := by omega
        have ne2 : ¬ ((f : Int) + (2 * (r : Int) + 1 + 1)).toNat = ((f : Int) + (r : Int)).toNat := by omega
        clear c3 c4 f3 f4 hg2
        go_wp2_with fail
        · refine bodyPost_ret (results_none rfl _ _ _) rfl ?_
          exact ⟨rfl, d1, HQ.out⟩
        · go_region
          all_goals
            go_wp2_with fail
            obtain ⟨d3, h3⟩ := HQ.out.swapX C ((f : Int) + (r : Int)).toNat ((f : Int) + (2 * (r : Int) + 1 + 1)).toNat (by omega) (by omega) HY1 HY2
            exact ⟨⟨(2 * (r : Int) + 1 + 1 : Int).toNat, d3, by go_num, by omega, h3.drew C⟩, by simp [intOf]; omega⟩
      · have c3 := HP3.out.cellZ ((f : Int) + (r : Int)) (by omega) (by omega)
        have c4 := HP3.out.cellZ ((f : Int) + (2 * (r : Int) + 1)) (by omega) (by omega)
        have f3 := HP3.out.frozZ ((f : Int) + (r : Int)) (by omega) (by omega)
        have f4 := HP3.out.frozZ ((f : Int) + (2 * (r : Int) + 1)) (by omega) (by omega)
        have o3 := HP3.out.okZ HD.out ((f : Int) + (r : Int)) (by omega) (by omega)
        have o4 := HP3.out.okZ HD.out ((f : Int) + (2 * (r : Int) + 1)) (by omega) (by omega)
        generalize hy1 : d1.getD ((f : Int) + (r : Int)).toNat 0 = y1 at *
        rw [HX1.out] at c4 o4
        have HY1 : Hid (d1.getD ((f : Int) + (r : Int)).toNat 0 = y1) := hy1
        have HY2 : Hid (d1.getD ((f : Int) + (2 * (r : Int) + 1)).toNat 0 = x1) := HX1
        clear hy1
        have j1 : (f : Int) + (r : Int) < (d.length : Int) := by omega
        have j2 : (f : Int) + (2 * (r : Int) + 1) < (d.length : Int) := by omega
        have j3 : (0 : Int) ≤ (f : Int) + (r : Int) := by omega
        have j4 : (0 : Int) ≤ (f : Int) + (2 * (r : Int) + 1) := by omega
        have l1 : IntKind.i64.wrap ((f : Int) + (r : Int)) = (f : Int) + (r : Int) := wrapId _ (by omega) (by omega)
        have l2 : IntKind.i64.wrap ((f : Int) + (2 * (r : Int) + 1)) = (f : Int) + (2 * (r : Int) + 1) := wrapId _ (by omega) (by omega)
        go_region_held3 (fun w' => w'.cell? ⟨g, ((f : Int) + (r : Int)).toNat, Option.none⟩ = some (.int .i64 y1) ∧ w'.cell? ⟨g, ((f : Int) + (2 * (r : Int) + 1)).toNat, Option.none⟩ = some (.int .i64 x1))
          (first | go_keep | exact ⟨hg2.cell (by assumption) (by simp), hg2.cell (by assumption) (by simp)⟩)
          (first | (go_at_call 27; refine (C.call _ _ _ ?_ o3 o4).mono ?_; (exact (HP3.out.drew C).env); rintro e w2 ⟨⟨rr2, rfl⟩, hg2⟩))
        have HQ : Hid (Perms g Env W d w2 d1) := (HP3.out.drew C).grow C hg2
        have e3 := HQ.out.cellZ ((f : Int) + (r : Int)) (by omega) (by omega)
        have e4 := HQ.out.cellZ ((f : Int) + (2 * (r : Int) + 1)) (by omega) (by omega)
        have g3 := HQ.out.frozZ ((f : Int) + (r : Int)) (by omega) (by omega)
        have g4 := HQ.out.frozZ ((f : Int) + (2 * (r : Int) + 1)) (by omega) (by omega)
        rw [HY1.out] at e3
        rw [HY2.out] at e4
        have ne1 : ¬ ((f : Int) + (r : Int)).toNat = ((f : Int) + (2 * (r : Int) + 1)).toNat := by omega
        have ne2 : ¬ ((f : Int) + (2 * (r : Int) + 1)).toNat = ((f : Int) + (r : Int)).toNat := by omega
        clear c3 c4 f3 f4 hg2
        go_wp2_with fail
        · refine bodyPost_ret (results_none rfl _ _ _) rfl ?_
          exact ⟨rfl, d1, HQ.out⟩
        · go_region
          all_goals
            go_wp2_with fail
            obtain ⟨d3, h3⟩ := HQ.out.swapX C ((f : Int) + (r : Int)).toNat ((f : Int) + (2 * (r : Int) + 1)).toNat (by omega) (by omega) HY1 HY2
            exact ⟨⟨(2 * (r : Int) + 1 : Int).toNat, d3, by go_num, by omega, h3.drew C⟩, by simp [intOf]; omega⟩
    · have hl1 := HP.out.len
      have hdec : decide (2 * (r : Int) + 1 + 1 < (hi : Int)) = false := by simp; omega
      have k3 : IntKind.i64.wrap (2 * (r : Int) + 1 + 1) = 2 * (r : Int) + 1 + 1 := wrapId _ (by omega) (by omega)
      go_wp2_with fail
      go_quiet (fail)
      have HP3 : Hid (Perms g Env W d _ d1) := HP.out.drewN C nq
      go_wp2_with fail
      have c3 := HP.out.cellZ ((f : Int) + (r : Int)) (by omega) (by omega)
      have c4 := HP.out.cellZ ((f : Int) + (2 * (r : Int) + 1)) (by omega) (by omega)
      have f3 := HP.out.frozZ ((f : Int) + (r : Int)) (by omega) (by omega)
      have f4 := HP.out.frozZ ((f : Int) + (2 * (r : Int) + 1)) (by omega) (by omega)
      have o3 := HP3.out.okZ HD.out ((f : Int) + (r : Int)) (by omega) (by omega)
      have o4 := HP3.out.okZ HD.out ((f : Int) + (2 * (r : Int) + 1)) (by omega) (by omega)
      generalize hy1 : d1.getD ((f : Int) + (r : Int)).toNat 0 = y1 at *
      generalize hy2 : d1.getD ((f : Int) + (2 * (r : Int) + 1)).toNat 0 = y2 at *
      have HY1 : Hid (d1.getD ((f : Int) + (r : Int)).toNat 0 = y1) := hy1
      have HY2 : Hid (d1.getD ((f : Int) + (2 * (r : Int) + 1)).toNat 0 = y2) := hy2
      clear hy1 hy2
      have j1 : (f : Int) + (r : Int) < (d.length : Int) := by omega
      have j2 : (f : Int) + (2 * (r : Int) + 1) < (d.length : Int) := by omega
      have j3 : (0 : Int) ≤ (f : Int) + (r : Int) := by omega
      have j4 : (0 : Int) ≤ (f : Int) + (2 * (r : Int) + 1) := by omega
      have l1 : IntKind.i64.wrap ((f : Int) + (r : Int)) = (f : Int) + (r : Int) := wrapId _ (by omega) (by omega)
      have l2 : IntKind.i64.wrap ((f : Int) + (2 * (r : Int) + 1)) = (f : Int) + (2 * (r : Int) + 1) := wrapId _ (by omega) (by omega)
      go_region_held3 (fun w' => w'.cell? ⟨g, ((f : Int) + (r : Int)).toNat, Option.none⟩ = some (.int .i64 y1) ∧ w'.cell? ⟨g, ((f : Int) + (2 * (r : Int) + 1)).toNat, Option.none⟩ = some (.int .i64 y2))
        (first | go_keep | exact ⟨hg2.cell (by assumption) (by simp), hg2.cell (by assumption) (by simp)⟩)
        (first | (go_at_call 27; refine (C.call _ _ _ ?_ o3 o4).mono ?_; (exact (HP3.out.drew C).env); rintro e w2 ⟨⟨rr2, rfl⟩, hg2⟩))
      have HQ : Hid (Perms g Env W d w2 d1) := (HP3.out.drew C).grow C hg2
      have e3 := HQ.out.cellZ ((f : Int) + (r : Int)) (by omega) (by omega)
      have e4 := HQ.out.cellZ ((f : Int) + (2 * (r : Int) + 1)) (by omega) (by omega)
      have g3 := HQ.out.frozZ ((f : Int) + (r : Int)) (by omega) (by omega)
      have g4 := HQ.out.frozZ ((f : Int) + (2 * (r : Int) + 1)) (by omega) (by omega)
      rw [HY1.out] at e3
      rw [HY2.out] at e4
      have ne1 : ¬ ((f : Int) + (r : Int)).toNat = ((f : Int) + (2 * (r : Int) + 1)).toNat := by omega
      have ne2 : ¬ ((f : Int) + (2 * (r : Int) + 1)).toNat = ((f : Int) + (r : Int)).toNat := by omega
      clear c3 c4 f3 f4 hg2
      go_wp2_with fail
      · refine bodyPost_ret (results_none rfl _ _ _) rfl ?_
        exact ⟨rfl, d1, HQ.out⟩
      · go_region
        all_goals
          go_wp2_with fail
          obtain ⟨d3, h3⟩ := HQ.out.swapX C ((f : Int) + (r : Int)).toNat ((f : Int) + (2 * (r : Int) + 1)).toNat (by omega) (by omega) HY1 HY2
          exact ⟨⟨(2 * (r : Int) + 1 : Int).toNat, d3, by go_num, by omega, h3.drew C⟩, by simp [intOf]; omega⟩

end Go.Proofs.Qxb6615850a
