import Derived.Test.Qxb6616096aDoorSetW
namespace Go.Proofs.Qxb6616096aDoor
open Go.RowKit
set_option linter.unusedVariables false
set_option linter.unusedSimpArgs false
set_option maxRecDepth 100000

set_option maxHeartbeats 1000000 in
theorem setRate_no (S KB RB BB TB n i : Nat) (p : Option Nat) (burst m o e d f m' o' e' d' f' P L now : Int) (w : World) (hi : i < n) (hn : n ≤ 65536) (h : SetH w S KB RB BB TB n i p burst m o e d f m' o' e' d' f' (-1) P L w) :
    Calls Tryd.prog 24 #[.pointer (some ⟨S, 2, Option.none⟩), .pointer (some ⟨KB, 0, Option.none⟩), .int .i64 (i : Int), .pointer (some ⟨TB, 0, Option.none⟩), .int .i64 now] w fun e' w' => e' = .returned (.tuple #[]) ∧ SetPost BB RB TB i burst (-1) P L now w w' := by
  have i1 : (i : Int) < (n : Int) := by omega
  have i2 : (0 : Int) ≤ (i : Int) := by omega
  have s4 := h.s4; have s5 := h.s5; have b0 := h.b0; have rc := h.rc; have rf := h.rf
  have HP : Hid (SetPost BB RB TB i burst (-1) P L now w (w.setCell ⟨RB, i, Option.none⟩ (.pointer (some ⟨TB, 0, Option.none⟩)))) := h.post (.inl ⟨rfl, rfl, rfl, rfl⟩)
  clear h
  go_enter Tryd.func24, Tryd.ntmps24
  go_wp2_with fail
  simp [bodyPost, results, Tryd.results24, go_sem]
  exact HP.out

set_option maxHeartbeats 2000000 in
theorem setRate_yes (S KB RB BB TB n i : Nat) (p : Option Nat) (burst m o e d f m' o' e' d' f' T L now : Int) (w : World) (hi : i < n) (hn : n ≤ 65536) (hT : T ≠ -1) (h : SetH w S KB RB BB TB n i p burst m o e d f m' o' e' d' f' T 0 L w)
    (C34 : Hid (∀ w', SetH w S KB RB BB TB n i p burst m o e d f m' o' e' d' f' T 0 L w' → Calls Tryd.prog 34 #[.pointer (some ⟨S, 2, Option.none⟩), .pointer (some ⟨KB, 0, Option.none⟩), .int .i64 (i : Int)] w' fun e w'' => e = .returned (.pointer (some (rateLies p KB 0))) ∧ w' = w''))
    (C35 : Hid (∀ w', SetH w S KB RB BB TB n i p burst m o e d f m' o' e' d' f' T 0 L w' → Calls Tryd.prog 35 #[.pointer (some ⟨KB, 0, Option.none⟩), .agg #[.int .i64 T, .int .u64 0, .int .i64 L], .pointer (some (rateLies p KB 0)), .int .i64 now] w' fun e w'' => RetRefill burst T L now e ∧ Below w'.heap.size w' w''))
    (C36 : Hid (∀ (P mo : Int) w', Word P → Word mo → Calls Tryd.prog 36 #[.agg #[.int .u64 m, .int .u64 o, .int .i64 e, .int .u64 d, .int .u64 f], .int .u64 P, .agg #[.int .u64 m', .int .u64 o', .int .i64 e', .int .u64 d', .int .u64 f'], .int .u64 mo] w' fun e'' w'' => RetZ (P = 0) e'' ∧ Below w'.heap.size w' w'')) :
    Calls Tryd.prog 24 #[.pointer (some ⟨S, 2, Option.none⟩), .pointer (some ⟨KB, 0, Option.none⟩), .int .i64 (i : Int), .pointer (some ⟨TB, 0, Option.none⟩), .int .i64 now] w fun e' w' => e' = .returned (.tuple #[]) ∧ SetPost BB RB TB i burst T 0 L now w w' := by
  have i1 : (i : Int) < (n : Int) := by omega
  have i2 : (0 : Int) ≤ (i : Int) := by omega
  obtain ⟨FB, FO, hF⟩ : ∃ FB FO : Nat, rateLies p KB 0 = ⟨FB, FO, Option.none⟩ := by cases p <;> exact ⟨_, _, rfl⟩
  rw [hF] at C34 C35
  have kT : (T == -1) = false := by rw [beq_eq_false_iff_ne]; exact hT
  have s4 := h.s4; have b0 := h.b0; have b1 := h.b1; have b2 := h.b2; have g0 := h.g0; have g1 := h.g1; have g2 := h.g2
  have HS : Hid (SetH w S KB RB BB TB n i p burst m o e d f m' o' e' d' f' T 0 L w) := h
  clear h
  go_enter Tryd.func24, Tryd.ntmps24
  go_wp2_with fail
  refine (C34.out _ HS.out).mono ?_
  rintro e w1 ⟨rfl, rfl⟩
  go_upto_region 3 with fail
  go_cut [11] (fun s11 wx => s11 = .pointer (some ⟨FB, FO, Option.none⟩) ∧ ∃ T1 P1 L1, SetH w S KB RB BB TB n i p burst m o e d f m' o' e' d' f' T1 P1 L1 wx ∧ Aside (Word P1 ∧ L1 = (if L < now then now else L) ∧ T ≤ T1 ∧ T1 ≤ burst ∧ (T1 = burst → P1 = 0) ∧ (now ≤ L → T1 = T ∧ P1 = 0)))
  case first =>
    go_wp2_with fail
    refine (C35.out _ HS.out).mono ?_
    rintro e w1 ⟨⟨T1, P1, rfl, hT1, hT2, hP1, hP2, hP3⟩, hb⟩
    have h1 := HS.out.below hb
    have b0 := h1.b0; have b1 := h1.b1; have b2 := h1.b2; have g0 := h1.g0; have g1 := h1.g1; have g2 := h1.g2
    have HR : Hid (SetH w S KB RB BB TB n i p burst m o e d f m' o' e' d' f' T1 P1 (if L < now then now else L) _) := h1.set T1 P1 (if L < now then now else L)
    have HA : Hid (Word P1 ∧ T ≤ T1 ∧ T1 ≤ burst ∧ (T1 = burst → P1 = 0) ∧ (now ≤ L → T1 = T ∧ P1 = 0)) := ⟨hP1, hT1, hT2, hP2, hP3⟩
    clear h1 hb hP1 hT1 hT2 hP2 hP3 HS
    obtain ⟨L1, hL1⟩ : ∃ L1, (if L < now then now else L) = L1 := ⟨_, rfl⟩
    rw [hL1] at HR ⊢
    go_wp2_with fail
    go_meet
    case rel => exact ⟨rfl, T1, P1, L1, HR.out, HA.out.1, hL1.symm, HA.out.2⟩
  case rest =>
    obtain ⟨rfl, T1, P1, L1, hS, HA⟩ := hcut
    have hS1 := hS.drew
    have b1 := hS.b1; have b2 := hS.b2; have g1 := hS.g1
    have fr := hS.fr; rw [hF] at fr
    have f0 := fr.c0; have f1 := fr.c1; have f2 := fr.c2; have f3 := fr.c3; have f4 := fr.c4
    have t0 := hS.tr.c0; have t1 := hS.tr.c1; have t2 := hS.tr.c2; have t3 := hS.tr.c3; have t4 := hS.tr.c4
    obtain ⟨mo, hmo⟩ : ∃ mo : Int, IntKind.u64.wrap (IntKind.i64.wrap (L1 + 9223372036854775808)) = mo := ⟨_, rfl⟩
    have hw : Word mo := by rw [← hmo, IntKind.wrap_u64]; exact ⟨by omega, by omega⟩
    have hwP : Word P1 := HA.out.1
    have C36' : Hid (∀ w', SetH w S KB RB BB TB n i p burst m o e d f m' o' e' d' f' T1 P1 L1 w' → Calls Tryd.prog 36 #[.agg #[.int .u64 m, .int .u64 o, .int .i64 e, .int .u64 d, .int .u64 f], .int .u64 P1, .agg #[.int .u64 m', .int .u64 o', .int .i64 e', .int .u64 d', .int .u64 f'], .int .u64 mo] w' fun e'' w'' => RetZ (P1 = 0) e'' ∧ SetH w S KB RB BB TB n i p burst m o e d f m' o' e' d' f' T1 P1 L1 w'') :=
      fun w' hH => (C36.out P1 mo w' hwP hw).mono fun e w'' ⟨h1, h2⟩ => ⟨h1, hH.below h2⟩
    clear C36 hw hwP HS C34 C35 fr
    go_wp2_with fail
    go_upto_region 4 with fail
    go_cut [] (fun wx => ∃ P2, SetH w S KB RB BB TB n i p burst m o e d f m' o' e' d' f' T1 P2 L1 wx ∧ Aside (P1 = 0 → P2 = 0))
    case first =>
      go_region_with (first | (go_at_call 36; refine (C36'.out _ (by assumption)).mono ?_; rintro e w5 ⟨⟨x, rfl, hx, hz⟩, hS5⟩; have c1 := hS5.b1; have d1 := hS5.g1))
      all_goals (go_wp2_with fail; go_meet)
      all_goals exact ⟨x, hS5.phase x, hz⟩
    case rest =>
      obtain ⟨P2, hS2, HZ⟩ := hcut
      have s5 := hS2.s5; have rc := hS2.rc; have rf := hS2.rf
      have HP : Hid (SetPost BB RB TB i burst T 0 L now w (wc.setCell ⟨RB, i, Option.none⟩ (.pointer (some ⟨TB, 0, Option.none⟩)))) := hS2.post (.inr ⟨hT, HA.out.2.2.1, HA.out.2.2.2.1, HA.out.2.1, fun h => HZ.out (HA.out.2.2.2.2.1 h), fun h => ⟨(HA.out.2.2.2.2.2 h).1, HZ.out (HA.out.2.2.2.2.2 h).2⟩⟩)
      clear hS2 
      go_wp2_with fail
      simp [bodyPost, results, Tryd.results24, go_sem]
      exact HP.out

end Go.Proofs.Qxb6616096aDoor
