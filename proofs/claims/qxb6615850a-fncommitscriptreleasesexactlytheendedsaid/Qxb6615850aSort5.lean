import Derived.Test.Qxb6615850aSort4
namespace Go.Proofs.Qxb6615850a
open Go.RowKit
set_option linter.unusedVariables false

theorem cell_kept {w : World} {p q : Addr} {x v : Value} (h : w.cell? q = some v) : ∃ v', (w.setCell p x).cell? q = some v' := by
  by_cases e : p = q
  · subst e; exact ⟨x, World.cell?_setCell_same _ _ _ h⟩
  · exact ⟨v, (World.cell?_setCell_other _ _ _ _ e).trans h⟩

theorem Perms.mem {g : Nat} {Env : World → Prop} {W w' : World} {d d' : List Int} (h : Perms g Env W d w' d') {ok : Int → Prop} (hd : ∀ z ∈ d, ok z) : ∀ z ∈ d', ok z := fun z hz => hd z (h.perm.mem_iff.1 hz)

set_option maxHeartbeats 2000000 in
theorem heapSort (g E cap a b : Nat) (d : List Int) (rv : Value) (ok : Int → Prop) (Env : World → Prop) (C : Cmp g E rv ok Env) (W : World) (hr : Rowz W g d) (he : Env W) (hd : ∀ z ∈ d, ok z)
    (hl : a < b) (hf : b ≤ d.length) (hN : d.length ≤ 1000000) :
    Calls Try.prog 35 #[.slice (some ⟨g, 0, Option.none⟩) d.length cap, .int .i64 a, .int .i64 b, .func (.func 27) #[rv] #[]] W fun e w' => e = .returned (.tuple #[]) ∧ ∃ d', Perms g Env W d w' d' := by
  have hst : Perms g Env W d W d := .start hr he
  have HD : Hid (∀ z ∈ d, ok z) := hd
  have S : Hid (∀ (lo hi : Int) (d1 : List Int) (w : World), Perms g Env W d w d1 → 0 ≤ lo → lo ≤ 1000000 → 0 ≤ hi → a + hi ≤ d.length →
      Calls Try.prog 44 #[.slice (some ⟨g, 0, Option.none⟩) d.length cap, .int .i64 lo, .int .i64 hi, .int .i64 a, .func (.func 27) #[rv] #[]] w fun e w' => e = .returned (.tuple #[]) ∧ ∃ d', Perms g Env W d w' d') := by
    intro lo hi d1 w hp h0 h1 h3 h2
    obtain ⟨lo, rfl⟩ := Int.eq_ofNat_of_zero_le h0
    obtain ⟨hi, rfl⟩ := Int.eq_ofNat_of_zero_le h3
    have hl1 := hp.len
    have := siftDown g E cap lo hi a d1 rv ok Env C w hp.row hp.env (hp.mem hd) (by omega) (by omega) (by omega)
    rw [hl1] at this
    exact this.mono fun e w' ⟨h, d', k⟩ => ⟨h, d', hp.trans k⟩
  clear hr he hd
  go_enter Try.func35, Try.ntmps35
  go_wp2_with fail
  go_loopw [11] (fun i w => ∃ (ii : Int) (d' : List Int), i = .int .i64 ii ∧ -1 ≤ ii ∧ ii ≤ 1000000 ∧ Perms g Env W d w d') (fun i _ => (intOf i + 1).toNat)
  case atStart => exact ⟨_, d, rfl, by omega, by omega, hst⟩
  case round =>
    obtain ⟨ii, d1, rfl, h1, h2, hp⟩ := hrel
    have HP : Hid (Perms g Env W d _ d1) := hp
    clear hp
    by_cases h0 : 0 ≤ ii
    · obtain ⟨q, rfl⟩ := Int.eq_ofNat_of_zero_le h0
      go_wp2_with fail
      refine (S.out _ _ d1 _ HP.out (by omega) (by omega) (by omega) (by omega)).mono ?_
      rintro e w1 ⟨rfl, d2, hp2⟩
      go_wp2_with fail
      exact ⟨⟨_, d2, rfl, by omega, by omega, hp2⟩, by simp [intOf]⟩
    · go_wp2_with fail
      go_loopw [12] (fun i w => ∃ (ii : Int) (d' : List Int), i = .int .i64 ii ∧ -1 ≤ ii ∧ ii < (b : Int) - a ∧ Perms g Env W d w d') (fun i _ => (intOf i + 1).toNat)
      case atStart => exact ⟨_, d1, rfl, by omega, by omega, HP.out⟩
      case round =>
        obtain ⟨jj, d2, rfl, h3, h4, hp2⟩ := hrel
        have HP2 : Hid (Perms g Env W d _ d2) := hp2
        clear hp2
        by_cases h5 : 0 ≤ jj
        · obtain ⟨q, rfl⟩ := Int.eq_ofNat_of_zero_le h5
          have hl2 := HP2.out.len
          have c3 := HP2.out.row.cell a (by omega)
          have c4 := HP2.out.row.cell (a + q) (by omega)
          have f3 := HP2.out.row.froz a (by omega)
          have f4 := HP2.out.row.froz (a + q) (by omega)
          generalize hy1 : d2.getD a 0 = y1 at *
          generalize hy2 : d2.getD (a + q) 0 = y2 at *
          have HY1 : Hid (d2.getD a 0 = y1) := hy1
          have HY2 : Hid (d2.getD (a + q) 0 = y2) := hy2
          clear hy1 hy2
          obtain ⟨v5, c5⟩ := cell_kept (p := ⟨g, a, Option.none⟩) (x := .int .i64 y2) c4
          go_wp2_with fail
          go_region
          all_goals
            go_wp2_with fail
            obtain ⟨d3, h3⟩ := HP2.out.swapX C a (a + q) (by omega) (by omega) HY1 HY2
            refine (S.out _ _ d3 _ (h3.drew C) (by omega) (by omega) (by omega) (by omega)).mono ?_
            rintro e w1 ⟨rfl, d4, hp4⟩
            go_wp2_with fail
            exact ⟨⟨_, d4, rfl, by omega, by omega, hp4⟩, by simp [intOf]⟩
        · go_wp2_with fail
          go_end0
          exact ⟨rfl, d2, HP2.out⟩

end Go.Proofs.Qxb6615850a
