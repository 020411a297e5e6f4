import Derived.Test.Qxb6616096aDoorLaid
import Derived.Test.Qxb6616096aDoorMain3
import Derived.Test.Qxb6616096aDoorShardC
import Derived.Test.Qxb6616096aDoorOpen
import Derived.Test.Qxb6616096aDoorTie
import Derived.Test.Qxb6616096aDoorCards
import Derived.SevenTiedAt
namespace Go.Proofs.Qxb6616096aDoor
open Go.ChangeShapes Go.WideShapes Go.ChangeAt Go.RowKit
set_option linter.unusedVariables false

theorem i64_of_wf' (x : Int) (h : (Lit.int .i64 x).wf = true) : -9223372036854775808 ≤ x ∧ x ≤ 9223372036854775807 := by
  have h2 : (decide (IntKind.i64.min ≤ x) && decide (x ≤ IntKind.i64.max)) = true := h
  rw [show IntKind.min .i64 = -9223372036854775808 from rfl, show IntKind.max .i64 = 9223372036854775807 from rfl] at h2
  simpa using h2
theorem f64_of_wf' (x : Nat) (h : (Lit.float .f64 x).wf = true) : x < 2 ^ 64 := by
  have h2 : decide (x < 2 ^ 64) = true := h
  simpa using h2

set_option maxRecDepth 100000 in
theorem lifted3 (os : Os) (started : os.Started) (H : Type) (enc : TypeId × Value → H) :
    ReturnsInHanded {} Tryd.checked os 3 .any (fun w args => (Rows.fnSetRateThenRateReadsItSpec.pre enc Tryd.prog Tryd.f3 [] false w args ∧ laidMetH Tryd.prog laidL w) ∧ sizedMet enc Tryd.prog Tryd.f3 (OpenSpec.ofChange Rows.fnSetRateThenRateReadsItSpec) false w args)
      (Rows.fnSetRateThenRateReadsItSpec.post enc Tryd.prog Tryd.f3 false true false false) := by
  refine returnsInHanded_of_change_and (C := Tryd.checked) (X := fun w _ => laidMetH Tryd.prog laidL w) (fun _ _ _ hh h => h.of_heap hh) own started (by kernel_rfl) Tryd.func3
    (ChangeSpec.witness_shaped (enc := enc) (C := Tryd.checked) (os := os) (X := fun w _ => laidMetH Tryd.prog laidL w) false (World.doorLaid Tryd.prog 400 os) #[.agg #[.int .i64 0, .float .f64 0, .float .f64 0, .float .f64 0, .float .f64 0, .float .f64 0, .int .i64 0], .slice Option.none 0 0, .slice Option.none 0 0, .slice Option.none 0 0, .slice Option.none 0 0, .slice Option.none 0 0, .int .i64 0, .float .f64 0, .int .i64 0] 8 rfl (World.shaped_of_RefB (by kernel_rfl) (by kernel_rfl)) (by kernel_rfl) (by kernel_rfl) (by kernel_rfl) (door_met os _)) ?_
  intro W base args ds gs before hval0 hW _ _ hL _
  have hval : ∀ (j : Nat) t v, Tryd.f3.params[j]? = some t → args[j]? = some v → Value.okWide Tryd.prog W .any base t v := hval0
  have hW' := hW
  obtain ⟨p, q, hA0, hV, rfl, hfz, hnd⟩ := hW
  have hA : DataW.TrodAll enc Tryd.prog W 0 (fun _ => true) true Tryd.f3.params.toList args.toList ds p := hA0
  rw [Tryd.params3] at hA hval
  obtain ⟨v0, vs0, d0, ds0, p0, q0, hargs, rfl, rfl, h0, r0⟩ := trodAll_cons hA
  obtain ⟨v1, vs1, d1, ds1, p1, q1, rfl, rfl, rfl, h1, r1⟩ := trodAll_cons r0
  obtain ⟨v2, vs2, d2, ds2, p2, q2, rfl, rfl, rfl, h2, r2⟩ := trodAll_cons r1
  obtain ⟨v3, vs3, d3, ds3, p3, q3, rfl, rfl, rfl, h3, r3⟩ := trodAll_cons r2
  obtain ⟨v4, vs4, d4, ds4, p4, q4, rfl, rfl, rfl, h4, r4⟩ := trodAll_cons r3
  obtain ⟨v5, vs5, d5, ds5, p5, q5, rfl, rfl, rfl, h5, r5⟩ := trodAll_cons r4
  obtain ⟨v6, vs6, d6, ds6, p6, q6, rfl, rfl, rfl, h6, r6⟩ := trodAll_cons r5
  obtain ⟨v7, vs7, d7, ds7, p7, q7, rfl, rfl, rfl, h7, r7⟩ := trodAll_cons r6
  obtain ⟨v8, vs8, d8, ds8, p8, q8, rfl, rfl, rfl, h8, r8⟩ := trodAll_cons r7
  obtain ⟨rfl, rfl, rfl⟩ := trodAll_nil r8
  obtain rfl : args = #[v0, v1, v2, v3, v4, v5, v6, v7, v8] := by cases args; simp_all
  obtain ⟨rfl, rfl⟩ := trodVars_none hV
  have lt : ∀ {t : TypeId} {v : Value} {d : DataW H} {ps : List MemPlace}, DataW.Trod enc Tryd.prog W 0 (fun _ => true) true t v d ps → ∀ x ∈ ps, x.block < W.heap.size := fun k => by obtain ⟨m, hm⟩ := k; exact DataW.trod_lt m _ _ _ hm
  have k0 := h0; have k1 := h1; have k2 := h2; have k3 := h3; have k4 := h4; have k5 := h5; have k6 := h6; have k7 := h7; have k8 := h8
  obtain ⟨burst, mn, mx, it, ic, dc, per, rfl, w1, w2, w3, w4⟩ := open_lim (hval 0 24 v0 rfl rfl) h0
  obtain ⟨a1, l1, c1, tok, rfl, s1, _⟩ := open_int_sl Tryd.underlying25 Tryd.underlying3 (by kernel_rfl) (hval 1 25 v1 rfl rfl) h1 (by decide)
  obtain ⟨a2, l2, c2, pha, rfl, s2, _⟩ := open_int_sl Tryd.underlying26 Tryd.underlying38 (by kernel_rfl) (hval 2 26 v2 rfl rfl) h2 (by decide)
  obtain ⟨a3, l3, c3, las, rfl, s3, wl⟩ := open_int_sl Tryd.underlying27 Tryd.underlying2 (by kernel_rfl) (hval 3 27 v3 rfl rfl) h3 (by decide)
  obtain ⟨a4, l4, c4, ow, rfl, s4, wo⟩ := open_float_sl Tryd.underlying28 Tryd.underlying22 (by kernel_rfl) (hval 4 28 v4 rfl rfl) h4
  obtain ⟨a5, l5, c5, has, rfl, s5, _⟩ := open_bool_sl Tryd.underlying29 Tryd.underlying4 (by kernel_rfl) (hval 5 29 v5 rfl rfl) h5
  obtain ⟨i, rfl, _, _, w6⟩ := open_int Tryd.underlying3 (hval 6 3 v6 rfl rfl) h6
  obtain ⟨t, rfl, _, _, w7⟩ := open_float Tryd.underlying22 (hval 7 22 v7 rfl rfl) h7
  obtain ⟨now, rfl, _, _, w8⟩ := open_int Tryd.underlying2 (hval 8 2 v8 rfl rfl) h8
  clear hA0 hval0
  have bi := i64_of_wf' i w6
  have bn := i64_of_wf' now w8
  have bp := i64_of_wf' per w4
  refine (main3_w burst per i now mn mx it ic dc t a1 a2 a3 a4 a5 l1 l2 l3 l4 l5 c1 c2 c3 c4 c5 tok pha las ow has W (f64_of_wf' mn w1) (f64_of_wf' mx w2) (f64_of_wf' it w3) (f64_of_wf' t w7) (fun j => f64_of_wf' _ (wo j)) bi.1 bi.2 bp.2 bn.1 bn.2 (fun j => i64_of_wf' _ (wl j)) (of_laid hL)
    (fun b A LB KB Bt Bp Bl Bo Bh n m o e d f W' g1 g2 g3 g4 g5 g6 => shard_c bp.2 b A LB KB Bt Bp Bl Bo Bh n m o e d f W' g1 g2 g3 g4 g5 g6) s1 s2 s3 s4 s5).mono fun e W' ⟨he, bel⟩ => ?_
  subst he
  exact ⟨_, rfl, _, _, _, [], _, [], hW', trodAll_mk1 (shut_bool Tryd.underlying4 _), (trodAll_cons_mk (Below.trod laidOut (by kernel_rfl) (of_decide_eq_true (by kernel_rfl)) k0 bel (lt k0)) (trodAll_cons_mk (Below.trod laidOut (by kernel_rfl) (of_decide_eq_true (by kernel_rfl)) k1 bel (lt k1)) (trodAll_cons_mk (Below.trod laidOut (by kernel_rfl) (of_decide_eq_true (by kernel_rfl)) k2 bel (lt k2)) (trodAll_cons_mk (Below.trod laidOut (by kernel_rfl) (of_decide_eq_true (by kernel_rfl)) k3 bel (lt k3)) (trodAll_cons_mk (Below.trod laidOut (by kernel_rfl) (of_decide_eq_true (by kernel_rfl)) k4 bel (lt k4)) (trodAll_cons_mk (Below.trod laidOut (by kernel_rfl) (of_decide_eq_true (by kernel_rfl)) k5 bel (lt k5)) (trodAll_cons_mk (Below.trod laidOut (by kernel_rfl) (of_decide_eq_true (by kernel_rfl)) k6 bel (lt k6)) (trodAll_cons_mk (Below.trod laidOut (by kernel_rfl) (of_decide_eq_true (by kernel_rfl)) k7 bel (lt k7)) (trodAll_cons_mk (Below.trod laidOut (by kernel_rfl) (of_decide_eq_true (by kernel_rfl)) k8 bel (lt k8)) trodAll_mk0))))))))), rfl, bel.frame _, fun h => by cases h⟩

theorem holds3 : Rows.FnSetRateThenRateReadsItSaid :=
  OpenClaim.holds_of_wide 3 Tryd.f3 rfl rfl rfl rfl rfl rfl rfl ⟨rfl, rfl, rfl, rfl, rfl⟩ rfl rfl rfl rfl rfl (by kernel_rfl) Tryd.func3 (by kernel_rfl)
    (of_decide_eq_true (by kernel_rfl)) (by unfold Func.isWrapper; first | (rw [if_pos (by decide +kernel)]; kernel_rfl) | (rw [if_neg (by decide +kernel)]; exact ⟨rfl, rfl⟩))
    (fun os started H enc _ => lifted3 os started H enc)

theorem setRate_proved : Rows.FnSetRateThenRateReadsItCardSaid :=
  Claim7.holds_tied_plain_at .later [] [.data] true (true, "6e56a65cce935dc76f777ce54eefe0209c7a14015783530a7c6003103a0e0dd2") false
    holds3 (fun _ h => by cases h) (by kernel_rfl) (fun _ h => by cases h) fnSetRateThenRateReadsIt_row_tie rfl ⟨rfl, rfl⟩ (by kernel_rfl) rfl
    (fun f fn hf hfn => by
      obtain rfl : f = 3 := Option.some.inj ((show Tryd.prog.funcNamed Rows.fnSetRateThenRateReadsItRow.func = some 3 by kernel_rfl).symm.trans hf) |>.symm
      obtain rfl : fn = Tryd.f3 := (Option.some.inj (Tryd.func3.symm.trans hfn)).symm
      exact ⟨by kernel_rfl, fun j t ht => by
        rw [Tryd.params3] at ht
        rcases j with _ | _ | _ | _ | _ | _ | _ | _ | _ | j
        · obtain rfl : t = 24 := by simpa using ht.symm
          exact (show Tryd.prog.wantsStandIn 24 = false by kernel_rfl)
        · obtain rfl : t = 25 := by simpa using ht.symm
          exact (show Tryd.prog.wantsStandIn 25 = false by kernel_rfl)
        · obtain rfl : t = 26 := by simpa using ht.symm
          exact (show Tryd.prog.wantsStandIn 26 = false by kernel_rfl)
        · obtain rfl : t = 27 := by simpa using ht.symm
          exact (show Tryd.prog.wantsStandIn 27 = false by kernel_rfl)
        · obtain rfl : t = 28 := by simpa using ht.symm
          exact (show Tryd.prog.wantsStandIn 28 = false by kernel_rfl)
        · obtain rfl : t = 29 := by simpa using ht.symm
          exact (show Tryd.prog.wantsStandIn 29 = false by kernel_rfl)
        · obtain rfl : t = 3 := by simpa using ht.symm
          exact (show Tryd.prog.wantsStandIn 3 = false by kernel_rfl)
        · obtain rfl : t = 22 := by simpa using ht.symm
          exact (show Tryd.prog.wantsStandIn 22 = false by kernel_rfl)
        · obtain rfl : t = 2 := by simpa using ht.symm
          exact (show Tryd.prog.wantsStandIn 2 = false by kernel_rfl)
        · simp at ht⟩)
    (by kernel_rfl)
#print axioms setRate_proved
end Go.Proofs.Qxb6616096aDoor
