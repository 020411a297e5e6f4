import Derived.Test.Qxb6616096aDoorPrem
namespace Go.Proofs.Qxb6616096aDoor
open Go.RowKit
set_option linter.unusedVariables false
set_option linter.unusedSimpArgs false
set_option maxRecDepth 100000
open Pl Flt Ieee

/-- What tablePremise holds. -/
structure HeldP (w : World) (burst : Int) (mn mx : Nat) (wx : World) : Prop where
  k0 : wx.cell? ⟨w.heap.size, 0, Option.none⟩ = some (.int .i64 burst)
  k1 : wx.cell? ⟨w.heap.size, 1, Option.none⟩ = some (.float .f64 mn)
  k2 : wx.cell? ⟨w.heap.size, 2, Option.none⟩ = some (.float .f64 mx)
  low : Below w.heap.size w wx

theorem HeldP.drewN {w : World} {burst : Int} {mn mx : Nat} {wx : World} (h : HeldP w burst mn mx wx) (n : Nat) : HeldP w burst mn mx (wx.drewN n) := ⟨by simpa using h.k0, by simpa using h.k1, by simpa using h.k2, below_drewN h.low n⟩

theorem heldP_new {w w1 : World} (burst per : Int) (mn mx it ic dc : Nat) (hb : Below (w.alloc (.cells #[.int .i64 burst, .float .f64 mn, .float .f64 mx, .float .f64 it, .float .f64 ic, .float .f64 dc, .int .i64 per] 24)).heap.size (w.alloc (.cells #[.int .i64 burst, .float .f64 mn, .float .f64 mx, .float .f64 it, .float .f64 ic, .float .f64 dc, .int .i64 per] 24)) w1) : HeldP w burst mn mx w1 :=
  ⟨by rw [hb.cell (by simp)]; simp [go_sem], by rw [hb.cell (by simp)]; simp [go_sem], by rw [hb.cell (by simp)]; simp [go_sem], ((Below.refl _ _).alloc (Nat.le_refl _) _).trans (hb.mono (by simp))⟩

set_option maxHeartbeats 2000000 in
theorem prem_c (burst per i : Int) (mn mx it ic dc t : Nat) (a1 a2 a3 a4 a5 : Option Addr) (l1 l2 l3 l4 l5 c1 c2 c3 c4 c5 : Nat) (tok pha las : Nat → Int) (own : Nat → Nat) (has : Nat → Bool) (w : World)
    (hmn : mn < 2 ^ 64) (hmx : mx < 2 ^ 64) (hit : it < 2 ^ 64) (ht : t < 2 ^ 64) (hown : ∀ j, own j < 2 ^ 64) (hi1 : -9223372036854775808 ≤ i) (hi2 : i ≤ 9223372036854775807)
    (s1 : IsSl w a1 l1 (fun j => .int .i64 (tok j))) (s2 : IsSl w a2 l2 (fun j => .int .u64 (pha j))) (s3 : IsSl w a3 l3 (fun j => .int .i64 (las j))) (s4 : IsSl w a4 l4 (fun j => .float .f64 (own j))) (s5 : IsSl w a5 l5 (fun j => .bool (has j))) :
    Calls Tryd.prog 8 #[.agg #[.int .i64 burst, .float .f64 mn, .float .f64 mx, .float .f64 it, .float .f64 ic, .float .f64 dc, .int .i64 per], .slice a1 l1 c1, .slice a2 l2 c2, .slice a3 l3 c3, .slice a4 l4 c4, .slice a5 l5 c5, .int .i64 i, .float .f64 t] w fun e w' => RetPrem burst mn mx it per l1 l2 l3 l4 l5 tok pha own has i t e ∧ Below w.heap.size w w' := by
  have C : Hid (∀ w, Calls Tryd.prog 19 #[.agg #[.int .i64 burst, .float .f64 mn, .float .f64 mx, .float .f64 it, .float .f64 ic, .float .f64 dc, .int .i64 per]] w fun e w' => RetLim burst mn mx it per e ∧ Below w.heap.size w w') := fun w => limOK_c burst per mn mx it ic dc hmn hmx hit w
  have H1 : Hid (IsSl w a1 l1 (fun j => .int .i64 (tok j))) := s1
  have H2 : Hid (IsSl w a2 l2 (fun j => .int .u64 (pha j))) := s2
  have H3 : Hid (IsSl w a3 l3 (fun j => .int .i64 (las j))) := s3
  have H4 : Hid (IsSl w a4 l4 (fun j => .float .f64 (own j))) := s4
  have H5 : Hid (IsSl w a5 l5 (fun j => .bool (has j))) := s5
  have HW : Hid ((∀ j, own j < 2 ^ 64) ∧ t < 2 ^ 64) := ⟨hown, ht⟩
  have hl1 := s1.small
  clear s1 s2 s3 s4 s5 hmn hmx hit hown ht
  go_enter Tryd.func8, Tryd.ntmps8
  go_wp2_with fail
  refine (C.out _).mono ?_
  rintro e w1 ⟨⟨x, rfl, hx⟩, hb⟩
  have hP := heldP_new burst per mn mx it ic dc hb
  have HP : Hid (HeldP w burst mn mx w1) := hP
  clear hb C
  cases x
  case false =>
    go_wp2_with fail
    go_ret
    exact ⟨retPrem_false, HP.out.low⟩
  have HL : Hid (LimOK burst mn mx it per) := hx rfl
  clear hx
  by_cases e2 : l2 = l1
  case neg =>
    have k : ((l2 : Int) == (l1 : Int)) = false := by rw [beq_eq_false_iff_ne]; omega
    clear hP
    go_wp2_with fail
    go_ret
    exact ⟨retPrem_false, HP.out.low⟩
  subst e2
  by_cases e3 : l3 = l2
  case neg =>
    have k : ((l3 : Int) == (l2 : Int)) = false := by rw [beq_eq_false_iff_ne]; omega
    clear hP
    go_wp2_with fail
    go_ret
    exact ⟨retPrem_false, HP.out.low⟩
  subst e3
  by_cases e4 : l4 = l3
  case neg =>
    have k : ((l4 : Int) == (l3 : Int)) = false := by rw [beq_eq_false_iff_ne]; omega
    clear hP
    go_wp2_with fail
    go_ret
    exact ⟨retPrem_false, HP.out.low⟩
  subst e4
  by_cases e5 : l5 = l4
  case neg =>
    have k : ((l5 : Int) == (l4 : Int)) = false := by rw [beq_eq_false_iff_ne]; omega
    clear hP
    go_wp2_with fail
    go_ret
    exact ⟨retPrem_false, HP.out.low⟩
  subst e5
  by_cases i0 : i < 0
  · have k : decide (i < 0) = true := decide_eq_true i0
    clear hP
    go_wp2_with fail
    go_ret
    exact ⟨retPrem_false, HP.out.low⟩
  obtain ⟨n, rfl⟩ := Int.eq_ofNat_of_zero_le (show 0 ≤ i by omega)
  by_cases i1 : l5 ≤ n
  · have k : decide ((l5 : Int) ≤ (n : Int)) = true := decide_eq_true (by omega)
    clear hP
    go_wp2_with fail
    go_ret
    exact ⟨retPrem_false, HP.out.low⟩
  have k1 := hP.k1; have k2 := hP.k2
  clear hP
  cases g1 : (FloatKind.f64.format.order t mn == some .gt || FloatKind.f64.format.order t mn == some .eq) with
  | false =>
    go_wp2_with fail
    go_ret
    exact ⟨retPrem_false, HP.out.low⟩
  | true =>
  cases g2 : (FloatKind.f64.format.order t mx == some .lt || FloatKind.f64.format.order t mx == some .eq) with
  | false =>
    go_wp2_with fail
    go_ret
    exact ⟨retPrem_false, HP.out.low⟩
  | true =>
  have HT : Hid (mn ≤ t ∧ t ≤ mx) := between HW.out.2 HL.out.m0 HL.out.le HL.out.mx1 g1 g2
  obtain ⟨b1, o1, rfl, q1⟩ := H1.out.at_ (by omega)
  obtain ⟨b2, o2, rfl, q2⟩ := H2.out.at_ (by omega)
  obtain ⟨b4, o4, rfl, q4⟩ := H4.out.at_ (by omega)
  obtain ⟨b5, o5, rfl, q5⟩ := H5.out.at_ (by omega)
  have Q1 : Hid (∀ j, j < l5 → w.cell? ⟨b1, o1 + j, Option.none⟩ = some (.int .i64 (tok j))) := q1
  have Q2 : Hid (∀ j, j < l5 → w.cell? ⟨b2, o2 + j, Option.none⟩ = some (.int .u64 (pha j))) := q2
  have Q4 : Hid (∀ j, j < l5 → w.cell? ⟨b4, o4 + j, Option.none⟩ = some (.float .f64 (own j))) := q4
  have Q5 : Hid (∀ j, j < l5 → w.cell? ⟨b5, o5 + j, Option.none⟩ = some (.bool (has j))) := q5
  have HI : Hid (n < l5) := by show n < l5; omega
  clear q1 q2 q4 q5 H1 H2 H3 H4 H5
  have ki : decide ((n : Int) < 0) = false := decide_eq_false (by omega)
  go_wp2_with fail
  go_loopg [18] l5 (fun gk s18 wx => ∃ j : Nat, s18 = .int .i64 j ∧ j ≤ l5 ∧ gk = l5 - j ∧ Aside (HeldP w burst mn mx wx ∧ ∀ x, x < j → has x = true → mn ≤ own x ∧ own x ≤ mx))
  case atStart => exact ⟨0, rfl, Nat.zero_le _, rfl, HP.out, fun x hx => absurd hx (Nat.not_lt_zero _)⟩
  case round =>
    obtain ⟨j, rfl, hj, hgj, HJ⟩ := hrel
    clear k1 k2 g1 g2
    by_cases hlt : j < l5
    · have c5 : wr.cell? ⟨b5, o5 + j, Option.none⟩ = some (.bool (has j)) := by
        have h := Q5.out j hlt
        rw [HJ.out.1.low.cell (World.block_lt_of_cell? w _ h)]; exact h
      have c4 : wr.cell? ⟨b4, o4 + j, Option.none⟩ = some (.float .f64 (own j)) := by
        have h := Q4.out j hlt
        rw [HJ.out.1.low.cell (World.block_lt_of_cell? w _ h)]; exact h
      have k1 := HJ.out.1.k1; have k2 := HJ.out.1.k2
      have i2 : (j : Int) < (l5 : Int) := by omega
      cases hh : has j with
      | false =>
        rw [hh] at c5
        go_wp2_with fail
        go_quiet (fail)
        go_wp2_with fail
        go_roundg (l5 - (j + 1))
        case measure => omega
        case rel =>
          refine ⟨j + 1, by go_num, by omega, rfl, HJ.out.1.drewN _, ?_⟩
          intro x hx hxh
          rcases Nat.lt_or_eq_of_le (Nat.le_of_lt_succ hx) with h | h
          · exact HJ.out.2 x h hxh
          · subst h; rw [hh] at hxh; cases hxh
      | true =>
        rw [hh] at c5
        cases g1 : (FloatKind.f64.format.order (own j) mn == some .gt || FloatKind.f64.format.order (own j) mn == some .eq) with
        | false =>
          go_wp2_with fail
          go_quiet (fail)
          go_wp2_with fail
          go_ret
          exact ⟨retPrem_false, (HJ.out.1.drewN _).low⟩
        | true =>
        cases g2 : (FloatKind.f64.format.order (own j) mx == some .lt || FloatKind.f64.format.order (own j) mx == some .eq) with
        | false =>
          go_wp2_with fail
          go_quiet (fail)
          go_wp2_with fail
          go_ret
          exact ⟨retPrem_false, (HJ.out.1.drewN _).low⟩
        | true =>
          have HO : Hid (mn ≤ own j ∧ own j ≤ mx) := between (HW.out.1 j) HL.out.m0 HL.out.le HL.out.mx1 g1 g2
          go_wp2_with fail
          go_quiet (fail)
          go_wp2_with fail
          go_roundg (l5 - (j + 1))
          case measure => omega
          case rel =>
            refine ⟨j + 1, by go_num, by omega, rfl, HJ.out.1.drewN _, ?_⟩
            intro x hx hxh
            rcases Nat.lt_or_eq_of_le (Nat.le_of_lt_succ hx) with h | h
            · exact HJ.out.2 x h hxh
            · subst h; exact HO.out
    · have i2 : ¬ (j : Int) < (l5 : Int) := by omega
      have HA : Hid (∀ x, x < l5 → has x = true → mn ≤ own x ∧ own x ≤ mx) := fun x hx => HJ.out.2 x (by omega)
      have c1 : wr.cell? ⟨b1, o1 + n, Option.none⟩ = some (.int .i64 (tok n)) := by
        have h := Q1.out n HI.out
        rw [HJ.out.1.low.cell (World.block_lt_of_cell? w _ h)]; exact h
      have c2 : wr.cell? ⟨b2, o2 + n, Option.none⟩ = some (.int .u64 (pha n)) := by
        have h := Q2.out n HI.out
        rw [HJ.out.1.low.cell (World.block_lt_of_cell? w _ h)]; exact h
      have k0 := HJ.out.1.k0
      have i3 : (n : Int) < (l5 : Int) := by have := HI.out; omega
      obtain ⟨T, hT⟩ : ∃ T, tok n = T := ⟨_, rfl⟩
      obtain ⟨P, hP⟩ : ∃ P, pha n = P := ⟨_, rfl⟩
      rw [hT] at c1; rw [hP] at c2
      have HF : Hid (tok n = T ∧ pha n = P) := ⟨hT, hP⟩
      clear hT hP
      have HR : Hid (T = -1 ∨ (0 ≤ T ∧ T ≤ burst ∧ P = 0) → Prem burst mn mx it per l5 l5 l5 l5 l5 tok pha own has (n : Int) t) := fun h =>
        ⟨HL.out, rfl, rfl, rfl, rfl, by omega, by have := HI.out; omega, HT.out, HA.out, by rw [Int.toNat_natCast, HF.out.1, HF.out.2]; exact h⟩
      by_cases t1 : T = -1
      · subst t1
        go_wp2_with fail
        go_ret
        exact ⟨⟨true, rfl, fun _ => HR.out (.inl (by first | rfl | trivial))⟩, HJ.out.1.low⟩
      have kt : (T == -1) = false := by rw [beq_eq_false_iff_ne]; exact t1
      by_cases t2 : 0 ≤ T
      case neg =>
        have k : decide (0 ≤ T) = false := decide_eq_false t2
        go_wp2_with fail
        go_quiet (fail)
        go_wp2_with fail
        go_ret
        exact ⟨retPrem_false, (HJ.out.1.drewN _).low⟩
      have kt2 : decide (0 ≤ T) = true := decide_eq_true t2
      by_cases t3 : T ≤ burst
      case neg =>
        have k : decide (T ≤ burst) = false := decide_eq_false t3
        go_wp2_with fail
        go_quiet (fail)
        go_wp2_with fail
        go_ret
        exact ⟨retPrem_false, (HJ.out.1.drewN _).low⟩
      have kt3 : decide (T ≤ burst) = true := decide_eq_true t3
      by_cases t4 : P = 0
      case neg =>
        have k : (P == 0) = false := by rw [beq_eq_false_iff_ne]; exact t4
        go_wp2_with fail
        go_quiet (fail)
        go_wp2_with fail
        go_ret
        exact ⟨retPrem_false, (HJ.out.1.drewN _).low⟩
      subst t4
      go_wp2_with fail
      go_quiet (fail)
      go_wp2_with fail
      go_ret
      exact ⟨⟨true, rfl, fun _ => HR.out (.inr ⟨t2, t3, by first | rfl | trivial⟩)⟩, (HJ.out.1.drewN _).low⟩

end Go.Proofs.Qxb6616096aDoor
