import Derived.Test.Qxb6615850aSort9
namespace Go.Proofs.Qxb6615850a
open Go.RowKit
set_option linter.unusedVariables false

/-- The row of W in some order, in the world w. -/
def Some_ (g : Nat) (Env : World → Prop) (W : World) (d : List Int) (w : World) : Prop := ∃ d', Perms g Env W d w d'

section
variable {g E : Nat} {d : List Int} {rv : Value} {ok : Int → Prop} {Env : World → Prop} {W : World}

theorem insertionP (C : Cmp g E rv ok Env) (hd : ∀ z ∈ d, ok z) (hN : d.length ≤ 1000000) (cap : Nat) (a b : Nat) (hab : a ≤ b) (hb : b ≤ d.length) (w : World) (hP : Some_ g Env W d w) :
    Calls Try.prog 34 #[.slice (some ⟨g, 0, Option.none⟩) d.length cap, .int .i64 (a : Nat), .int .i64 (b : Nat), .func (.func 27) #[rv] #[]] w fun e w' => e = .returned (.tuple #[]) ∧ Some_ g Env W d w' := by
  obtain ⟨d1, h1⟩ := hP
  have hl := h1.len
  have := insertion g E cap a b d1 rv ok Env C w h1.row h1.env (h1.mem hd) hab (by omega) (by omega)
  rw [hl] at this
  exact this.mono fun e w' ⟨he, d', k⟩ => ⟨he, d', h1.trans k⟩

theorem heapP (C : Cmp g E rv ok Env) (hd : ∀ z ∈ d, ok z) (hN : d.length ≤ 1000000) (cap : Nat) (a b : Nat) (hab : a < b) (hb : b ≤ d.length) (w : World) (hP : Some_ g Env W d w) :
    Calls Try.prog 35 #[.slice (some ⟨g, 0, Option.none⟩) d.length cap, .int .i64 (a : Nat), .int .i64 (b : Nat), .func (.func 27) #[rv] #[]] w fun e w' => e = .returned (.tuple #[]) ∧ Some_ g Env W d w' := by
  obtain ⟨d1, h1⟩ := hP
  have hl := h1.len
  have := heapSort g E cap a b d1 rv ok Env C w h1.row h1.env (h1.mem hd) hab (by omega) (by omega)
  rw [hl] at this
  exact this.mono fun e w' ⟨he, d', k⟩ => ⟨he, d', h1.trans k⟩

theorem breakP (C : Cmp g E rv ok Env) (hd : ∀ z ∈ d, ok z) (hN : d.length ≤ 1000000) (cap : Nat) (a b : Nat) (hab : a + 12 < b) (hb : b ≤ d.length) (w : World) (hP : Some_ g Env W d w) :
    Calls Try.prog 36 #[.slice (some ⟨g, 0, Option.none⟩) d.length cap, .int .i64 (a : Nat), .int .i64 (b : Nat), .func (.func 27) #[rv] #[]] w fun e w' => e = .returned (.tuple #[]) ∧ Some_ g Env W d w' := by
  obtain ⟨d1, h1⟩ := hP
  have hl := h1.len
  have := breakPatterns g E cap a b d1 rv ok Env C w h1.row h1.env hab (by omega) (by omega)
  rw [hl] at this
  exact this.mono fun e w' ⟨he, d', k⟩ => ⟨he, d', h1.trans k⟩

theorem reverseP (C : Cmp g E rv ok Env) (hd : ∀ z ∈ d, ok z) (hN : d.length ≤ 1000000) (cap : Nat) (a b : Nat) (hab : a < b) (hb : b ≤ d.length) (w : World) (hP : Some_ g Env W d w) :
    Calls Try.prog 38 #[.slice (some ⟨g, 0, Option.none⟩) d.length cap, .int .i64 (a : Nat), .int .i64 (b : Nat), .func (.func 27) #[rv] #[]] w fun e w' => e = .returned (.tuple #[]) ∧ Some_ g Env W d w' := by
  obtain ⟨d1, h1⟩ := hP
  have hl := h1.len
  have := reverse g E cap a b d1 rv ok Env C w h1.row h1.env hab (by omega) (by omega)
  rw [hl] at this
  exact this.mono fun e w' ⟨he, d', k⟩ => ⟨he, d', h1.trans k⟩

theorem partialP (C : Cmp g E rv ok Env) (hd : ∀ z ∈ d, ok z) (hN : d.length ≤ 1000000) (cap : Nat) (a b : Nat) (hab : a < b) (hb : b ≤ d.length) (w : World) (hP : Some_ g Env W d w) :
    Calls Try.prog 39 #[.slice (some ⟨g, 0, Option.none⟩) d.length cap, .int .i64 (a : Nat), .int .i64 (b : Nat), .func (.func 27) #[rv] #[]] w fun e w' => RetB e ∧ Some_ g Env W d w' := by
  obtain ⟨d1, h1⟩ := hP
  have hl := h1.len
  have := partialInsertion g E cap a b d1 rv ok Env C w h1.row h1.env (h1.mem hd) hab (by omega) (by omega)
  rw [hl] at this
  exact this.mono fun e w' ⟨he, d', k⟩ => ⟨he, d', h1.trans k⟩

theorem eqP (C : Cmp g E rv ok Env) (hd : ∀ z ∈ d, ok z) (hN : d.length ≤ 1000000) (cap : Nat) (a b p : Nat) (hab : a + 1 < b) (hb : b ≤ d.length) (hp1 : a ≤ p) (hp2 : p < b) (w : World) (hP : Some_ g Env W d w) :
    Calls Try.prog 40 #[.slice (some ⟨g, 0, Option.none⟩) d.length cap, .int .i64 (a : Nat), .int .i64 (b : Nat), .int .i64 (p : Nat), .func (.func 27) #[rv] #[]] w fun e w' => RetOf (fun x => a < x ∧ x ≤ b) e ∧ Some_ g Env W d w' := by
  obtain ⟨d1, h1⟩ := hP
  have hl := h1.len
  have := partitionEqual g E cap a b p d1 rv ok Env C w h1.row h1.env (h1.mem hd) hab (by omega) hp1 hp2 (by omega)
  rw [hl] at this
  exact this.mono fun e w' ⟨he, d', k⟩ => ⟨he, d', h1.trans k⟩

theorem partP (C : Cmp g E rv ok Env) (hd : ∀ z ∈ d, ok z) (hN : d.length ≤ 1000000) (cap : Nat) (a b p : Nat) (hab : a + 1 < b) (hb : b ≤ d.length) (hp1 : a ≤ p) (hp2 : p < b) (w : World) (hP : Some_ g Env W d w) :
    Calls Try.prog 41 #[.slice (some ⟨g, 0, Option.none⟩) d.length cap, .int .i64 (a : Nat), .int .i64 (b : Nat), .int .i64 (p : Nat), .func (.func 27) #[rv] #[]] w fun e w' => RetMid a b e ∧ Some_ g Env W d w' := by
  obtain ⟨d1, h1⟩ := hP
  have hl := h1.len
  have := partition g E cap a b p d1 rv ok Env C w h1.row h1.env (h1.mem hd) hab (by omega) hp1 hp2 (by omega)
  rw [hl] at this
  exact this.mono fun e w' ⟨he, d', k⟩ => ⟨he, d', h1.trans k⟩

theorem pivotP (C : Cmp g E rv ok Env) (hd : ∀ z ∈ d, ok z) (hN : d.length ≤ 1000000) (cap : Nat) (a b : Nat) (hab : a + 12 < b) (hb : b ≤ d.length) (w : World) (hP : Some_ g Env W d w) :
    Calls Try.prog 37 #[.slice (some ⟨g, 0, Option.none⟩) d.length cap, .int .i64 (a : Nat), .int .i64 (b : Nat), .func (.func 27) #[rv] #[]] w fun e w' => RetPiv a b e ∧ Some_ g Env W d w' := by
  obtain ⟨d1, h1⟩ := hP
  have hl := h1.len
  obtain ⟨l, rfl⟩ : ∃ l, b = a + l := ⟨b - a, by omega⟩
  have := choosePivot g E cap a l d1 rv ok Env C w h1.row h1.env (h1.mem hd) (by omega) (by omega) (by omega)
  rw [hl] at this
  exact this.mono fun e w' ⟨he, _, _, k⟩ => ⟨he, d1, h1.grow C k⟩

theorem Some_.drewN (C : Cmp g E rv ok Env) {w : World} (h : Some_ g Env W d w) (n : Nat) : Some_ g Env W d (w.drewN n) := by
  obtain ⟨d1, h1⟩ := h
  exact ⟨d1, h1.drewN C n⟩
end

set_option maxRecDepth 100000 in
set_option maxHeartbeats 8000000 in
theorem pdq (g E cap : Nat) (rv : Value) (ok : Int → Prop) (Env : World → Prop) (C : Cmp g E rv ok Env) : ∀ (m a b : Nat) (lim : Int) (d : List Int) (W w : World), b - a ≤ m → a ≤ b → b ≤ d.length → d.length ≤ 1000000 → 0 ≤ lim → lim ≤ 1000 → (∀ z ∈ d, ok z) → Some_ g Env W d w →
    Calls Try.prog 32 #[.slice (some ⟨g, 0, Option.none⟩) d.length cap, .int .i64 a, .int .i64 b, .int .i64 lim, .func (.func 27) #[rv] #[]] w fun e w' => e = .returned (.tuple #[]) ∧ Some_ g Env W d w' := by
  intro m
  induction m with
  | zero =>
    intro a b lim d W w hm hab hb hN h0 h1 hd hP
    have hI := insertionP C hd hN cap a b hab hb w hP
    have HI : Hid (Calls Try.prog 34 #[.slice (some ⟨g, 0, Option.none⟩) d.length cap, .int .i64 a, .int .i64 b, .func (.func 27) #[rv] #[]] w fun e w' => e = .returned (.tuple #[]) ∧ Some_ g Env W d w') := hI
    clear hI hd hP
    go_enter Try.func32, Try.ntmps32
    go_wp2_with fail
    go_loopg [1, 2, 3, 10, 11] 1 (fun gk sa sb sl sx sy wx => wx = w ∧ sa = .int .i64 a ∧ sb = .int .i64 b)
    case atStart => exact ⟨rfl, rfl, rfl⟩
    case round =>
      obtain ⟨rfl, rfl, rfl⟩ := hrel
      go_wp2_with fail
      refine HI.out.mono ?_
      rintro e w1 ⟨rfl, h1⟩
      go_wp2_with fail
      refine bodyPost_ret (results_none rfl _ _ _) rfl ?_
      exact ⟨rfl, h1⟩
  | succ m ih =>
    intro a0 b0 lim d W w hm hab hb hN h0 h1 hd hP
    have IH : Hid (∀ (a b : Nat) (lim : Int) (w : World), b - a ≤ m → a ≤ b → b ≤ d.length → 0 ≤ lim → lim ≤ 1000 → Some_ g Env W d w →
      Calls Try.prog 32 #[.slice (some ⟨g, 0, Option.none⟩) d.length cap, .int .i64 a, .int .i64 b, .int .i64 lim, .func (.func 27) #[rv] #[]] w fun e w' => e = .returned (.tuple #[]) ∧ Some_ g Env W d w') :=
      fun a b lim w h2 h3 h4 h5 h6 h7 => ih a b lim d W w h2 h3 h4 hN h5 h6 hd h7
    have HD : Hid (∀ z ∈ d, ok z) := hd
    clear ih hd
    go_enter Try.func32, Try.ntmps32
    go_wp2_with fail
    go_loopg [1, 2, 3, 10, 11] (b0 - a0) (fun gk sa sb sl sx sy wx => ∃ (a b : Nat) (l : Int) (x y : Bool), sa = .int .i64 a ∧ sb = .int .i64 b ∧ sl = .int .i64 l ∧ sx = .bool x ∧ sy = .bool y ∧ a ≤ b ∧ b ≤ d.length ∧ b - a ≤ m + 1 ∧ 0 ≤ l ∧ l ≤ 1000 ∧ gk = b - a ∧ Aside (Some_ g Env W d wx))
    case atStart => exact ⟨a0, b0, lim, true, true, rfl, rfl, rfl, rfl, rfl, hab, hb, hm, h0, h1, rfl, hP⟩
    case round =>
      clear hP
      obtain ⟨a, b, l, x, y, rfl, rfl, rfl, rfl, rfl, hab1, hb1, hm1, hl0, hl1, hgk, HP⟩ := hrel
      by_cases hlen : b - a ≤ 12
      · go_wp2_with fail
        refine (insertionP C HD.out hN cap a b hab1 hb1 _ HP.out).mono ?_
        rintro e w1 ⟨rfl, h1⟩
        go_wp2_with fail
        refine bodyPost_ret (results_none rfl _ _ _) rfl ?_
        exact ⟨rfl, h1⟩
      by_cases hz : l = 0
      · have hz' : (l == 0) = true := by rw [beq_iff_eq]; exact hz
        have HZ : Hid (l = 0) := hz
        clear hz
        go_wp2_with fail
        refine (heapP C HD.out hN cap a b (by omega) hb1 _ HP.out).mono ?_
        rintro e w1 ⟨rfl, h1⟩
        go_wp2_with fail
        refine bodyPost_ret (results_none rfl _ _ _) rfl ?_
        exact ⟨rfl, h1⟩
      have hz' : (l == 0) = false := by rw [beq_eq_false_iff_ne]; exact hz
      have hl2 : 1 ≤ l := by omega
      have hlen' : decide ((b : Int) - (a : Int) ≤ 12) = false := by simp; omega
      clear hz
      go_upto_if 39 with fail
      go_cut [3] (fun s wx => ∃ l : Int, s = .int .i64 l ∧ 0 ≤ l ∧ l ≤ 1000 ∧ Aside (Some_ g Env W d wx))
      case first =>
        cases x with
        | true =>
          go_wp2_with fail
          go_meet
          case rel => exact ⟨l, rfl, hl0, hl1, HP⟩
        | false =>
          go_wp2_with fail
          refine (breakP C HD.out hN cap a b (by omega) hb1 _ HP.out).mono ?_
          rintro e w1 ⟨rfl, h1⟩
          go_wp2_with fail
          go_meet
          case rel => exact ⟨_, rfl, by omega, by omega, h1⟩
      case rest =>
        clear hl0 hl1 hl2 HP hz'
        obtain ⟨l, rfl, hl0, hl1, HP⟩ := hcut
        go_wp2_with fail
        refine (pivotP C HD.out hN cap a b (by omega) hb1 _ HP.out).mono ?_
        rintro e w2 ⟨⟨p, h, rfl, hp1, hp2⟩, hP2⟩
        have HP2 : Aside (Some_ g Env W d w2) := hP2
        clear hP2 HP
        go_upto_if 56 with fail
        go_cut [13, 14] (fun s t wx => ∃ (p : Nat) (h : Int), s = .int .i64 p ∧ t = .int .i64 h ∧ a ≤ p ∧ p < b ∧ Aside (Some_ g Env W d wx))
        case first =>
          cases hh : (h == 2) with
          | true =>
            go_wp2_with fail
            refine (reverseP C HD.out hN cap a b (by omega) hb1 _ HP2.out).mono ?_
            rintro e w3 ⟨rfl, h3⟩
            go_wp2_with fail
            go_meet
            case rel => exact ⟨b - 1 - (p - a), 1, by go_num, rfl, by omega, by omega, h3⟩
          | false =>
            go_wp2_with fail
            go_meet
            case rel => exact ⟨p, h, rfl, rfl, hp1, hp2, HP2⟩
        case rest =>
          clear hp1 hp2 HP2
          obtain ⟨p, h, rfl, rfl, hp1, hp2, HP3⟩ := hcut
          go_upto_region 15 with fail
          go_cut [10, 11, 75] (fun s10 s11 s wx => ∃ x y c : Bool, s10 = .bool x ∧ s11 = .bool y ∧ s = .bool c ∧ Aside (Some_ g Env W d wx))
          case first =>
            go_wp2_with fail
            all_goals
              go_meet
              case rel => exact ⟨_, _, _, rfl, rfl, rfl, HP3⟩
          case rest =>
          clear HP3
          obtain ⟨x, y, c, rfl, rfl, rfl, HP3⟩ := hcut
          go_upto_if 75 with fail
          go_cut [14] (fun s wx => Aside (Some_ g Env W d wx))
          case first =>
            cases c with
            | true =>
              go_wp2_with fail
              refine (partialP C HD.out hN cap a b (by omega) hb1 _ HP3.out).mono ?_
              rintro e w4 ⟨⟨c, rfl⟩, h4⟩
              cases c with
              | true =>
                go_wp2_with fail
                refine bodyPost_ret (results_none rfl _ _ _) rfl ?_
                exact ⟨rfl, h4⟩
              | false =>
                go_wp2_with fail
                go_meet
                case rel => exact h4
            | false =>
              go_wp2_with fail
              go_meet
              case rel => exact HP3
          case rest =>
            clear HP3
            have HP4 := hcut
            clear hcut
            go_wp2_with fail
            go_cut [97] (fun s wx => ∃ c : Bool, s = .bool c ∧ Aside (Some_ g Env W d wx))
            case first =>
              by_cases ha0 : 0 < a
              · obtain ⟨d1, hp4⟩ := HP4.out
                have HPd : Aside (Perms g Env W d _ d1) := hp4
                have hl1' := hp4.len
                have c1 := hp4.row.cell (a - 1) (by omega)
                have c2 := hp4.row.cell p (by omega)
                have o1 := hp4.ok HD.out (a - 1) (by omega)
                have o2 := hp4.ok HD.out p (by omega)
                generalize d1.getD (a - 1) 0 = x1 at *
                generalize d1.getD p 0 = x2 at *
                have hdec : decide ((0 : Int) < (a : Int)) = true := by simp; omega
                have i1 : (a : Int) - 1 < (d.length : Int) := by omega
                have i2 : (p : Int) < (d.length : Int) := by omega
                have i3 : (0 : Int) ≤ (a : Int) - 1 := by omega
                have i4 : (0 : Int) ≤ (p : Int) := by omega
                have i5 : (1 : Int) ≤ (a : Int) := by omega
                have i6 : 1 ≤ a := by omega
                have k1 : IntKind.i64.wrap ((a : Int) - 1) = (a : Int) - 1 := wrapId _ (by omega) (by omega)
                clear hp4 HP4
                go_region_held3 (fun w' => w'.cell? ⟨g, a - 1, Option.none⟩ = some (.int .i64 x1) ∧ w'.cell? ⟨g, p, Option.none⟩ = some (.int .i64 x2))
                  (first | go_keep | exact ⟨hg1.cell (by assumption) (by simp), hg1.cell (by assumption) (by simp)⟩)
                  (first | (go_at_call 27; refine (C.call _ _ _ ?_ o1 o2).mono ?_; (exact (HPd.out.drew C).env); rintro e w5 ⟨⟨r, rfl⟩, hg1⟩))
                have HQ : Aside (Some_ g Env W d w5) := ⟨d1, (HPd.out.drew C).grow C hg1⟩
                clear c1 c2 hg1 k1
                go_wp2_with fail
                go_meet
                case rel => exact ⟨_, rfl, HQ⟩
              · have hdec : decide ((0 : Int) < (a : Int)) = false := by simp; omega
                go_quiet (fail)
                go_wp2_with fail
                go_meet
                case rel => exact ⟨false, rfl, HP4.out.drewN C _⟩
            case rest =>
              clear HP4
              obtain ⟨c, rfl, HP5⟩ := hcut
              cases c with
              | true =>
                go_wp2_with fail
                refine (eqP C HD.out hN cap a b p (by omega) hb1 hp1 hp2 _ HP5.out).mono ?_
                rintro e w6 ⟨⟨mid, rfl, hm2, hm3⟩, h6⟩
                have HP6 : Aside (Some_ g Env W d w6) := h6
                clear h6
                go_wp2_with fail
                go_roundg (b - mid)
                case measure => omega
                case rel => exact ⟨mid, b, l, x, y, rfl, rfl, rfl, rfl, rfl, by omega, hb1, by omega, hl0, hl1, rfl, HP6⟩
              | false =>
                go_wp2_with fail
                refine (partP C HD.out hN cap a b p (by omega) hb1 hp1 hp2 _ HP5.out).mono ?_
                rintro e w6 ⟨⟨mid, fl, rfl, hm2, hm3⟩, h6⟩
                have HP6 : Aside (Some_ g Env W d w6) := h6
                clear h6
                by_cases hlr : mid - a < b - mid
                · go_wp2_with fail
                  refine (IH.out a mid l _ (by omega) (by omega) (by omega) hl0 hl1 HP6.out).mono ?_
                  rintro e w7 ⟨rfl, h7⟩
                  have HP7 : Aside (Some_ g Env W d w7) := h7
                  clear h7
                  go_wp2_with fail
                  go_roundg (b - (mid + 1))
                  case measure => omega
                  case rel => exact ⟨mid + 1, b, l, _, fl, by go_num, rfl, rfl, rfl, rfl, by omega, hb1, by omega, hl0, hl1, rfl, HP7⟩
                · have hI2 := IH.out (mid + 1) b l w6 (by omega) (by omega) (by omega) hl0 hl1 HP6.out
                  rw [show (((mid + 1 : Nat)) : Int) = (mid : Int) + 1 from by omega] at hI2
                  have HI2 : Hid (Calls Try.prog 32 #[.slice (some ⟨g, 0, Option.none⟩) d.length cap, .int .i64 ((mid : Int) + 1), .int .i64 b, .int .i64 l, .func (.func 27) #[rv] #[]] w6 fun e w' => e = .returned (.tuple #[]) ∧ Some_ g Env W d w') := hI2
                  clear hI2
                  go_wp2_with fail
                  refine HI2.out.mono ?_
                  rintro e w7 ⟨rfl, h7⟩
                  have HP7 : Aside (Some_ g Env W d w7) := h7
                  clear h7
                  go_wp2_with fail
                  go_roundg (mid - a)
                  case measure => omega
                  case rel => exact ⟨a, mid, l, _, fl, rfl, rfl, rfl, rfl, rfl, by omega, by omega, by omega, hl0, hl1, rfl, HP7⟩

end Go.Proofs.Qxb6615850a
