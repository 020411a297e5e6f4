import Derived.Test.Qxb6616096aDoorLaid
import Derived.Test.Qxb6616096aDoorMain5b
import Derived.Test.Qxb6616096aDoorTie
import Derived.Test.Qxb6616096aDoorCards
import Derived.SevenTiedAt
namespace Go.Proofs.Qxb6616096aDoor
open Go.ChangeShapes Go.WideShapes Go.ChangeAt Go.RowKit

theorem i64_of_wf5 (x : Int) (h : (Lit.int .i64 x).wf = true) : -9223372036854775808 ≤ x ∧ x ≤ 9223372036854775807 := by
  have h2 : (decide (IntKind.i64.min ≤ x) && decide (x ≤ IntKind.i64.max)) = true := h
  rw [show IntKind.min .i64 = -9223372036854775808 from rfl, show IntKind.max .i64 = 9223372036854775807 from rfl] at h2
  simpa using h2
theorem f64_of_wf5 (x : Nat) (h : (Lit.float .f64 x).wf = true) : x < 2 ^ 64 := by
  have h2 : decide (x < 2 ^ 64) = true := h
  simpa using h2

set_option maxRecDepth 100000 in
theorem lifted5 (os : Os) (started : os.Started) (H : Type) (enc : TypeId × Value → H) :
    ReturnsInHanded {} Tryd.checked os 5 .any (fun w args => (Rows.fnNewKeyedLimitIsTheExactRateSpec.pre enc Tryd.prog Tryd.f5 [] false w args ∧ laidMetH Tryd.prog laidL w) ∧ sizedMet enc Tryd.prog Tryd.f5 (OpenSpec.ofChange Rows.fnNewKeyedLimitIsTheExactRateSpec) false w args)
      (Rows.fnNewKeyedLimitIsTheExactRateSpec.post enc Tryd.prog Tryd.f5 false true false false) := by
  refine returnsInHanded_of_change_and (C := Tryd.checked) (X := fun w _ => laidMetH Tryd.prog laidL w) (fun _ _ _ hh h => h.of_heap hh) own started (by kernel_rfl) Tryd.func5
    (ChangeSpec.witness_shaped (enc := enc) (C := Tryd.checked) (os := os) (X := fun w _ => laidMetH Tryd.prog laidL w) false (World.doorLaid Tryd.prog 400 os) #[.int .i64 0, .float .f64 0, .int .i64 0] 8 rfl (World.shaped_of_RefB (by kernel_rfl) (by kernel_rfl)) (by kernel_rfl) (by kernel_rfl) (by kernel_rfl) (door_met os _)) ?_
  intro W base args ds gs before hval0 hW _ _ hL _
  have hval : ∀ (j : Nat) t v, Tryd.f5.params[j]? = some t → args[j]? = some v → Value.okWide Tryd.prog W .any base t v := hval0
  have hW' := hW
  obtain ⟨p, q, hA0, hV, rfl, hfz, hnd⟩ := hW
  have hA : DataW.TrodAll enc Tryd.prog W 0 (fun _ => true) true Tryd.f5.params.toList args.toList ds p := hA0
  rw [Tryd.params5] at hA hval
  obtain ⟨v0, vs0, d0, ds0, p0, q0, hargs, rfl, rfl, h0, r0⟩ := trodAll_cons hA
  obtain ⟨v1, vs1, d1, ds1, p1, q1, rfl, rfl, rfl, h1, r1⟩ := trodAll_cons r0
  obtain ⟨v2, vs2, d2, ds2, p2, q2, rfl, rfl, rfl, h2, r2⟩ := trodAll_cons r1
  obtain ⟨rfl, rfl, rfl⟩ := trodAll_nil r2
  obtain rfl : args = #[v0, v1, v2] := by cases args; simp_all
  obtain ⟨rfl, rfl⟩ := trodVars_none hV
  obtain ⟨a0, rfl, rfl, rfl, w0⟩ := open_int Tryd.underlying3 (hval 0 3 v0 rfl rfl) h0
  obtain ⟨a1, rfl, rfl, rfl, w1⟩ := open_float Tryd.underlying22 (hval 1 22 v1 rfl rfl) h1
  obtain ⟨a2, rfl, rfl, rfl, w2⟩ := open_int Tryd.underlying2 (hval 2 2 v2 rfl rfl) h2
  clear hA0 hval0
  have b0 := i64_of_wf5 a0 w0
  have b2 := i64_of_wf5 a2 w2
  refine (main5 a0 a1 a2 W (f64_of_wf5 a1 w1) b0.1 b0.2 b2.1 b2.2 (of_laid hL)).mono fun e W' ⟨he, bel⟩ => ?_
  subst he
  exact ⟨_, rfl, _, _, _, [], _, [], hW', trodAll_mk1 (shut_bool Tryd.underlying4 _), (trodAll_cons_mk (shut_int Tryd.underlying3 w0) (trodAll_cons_mk (shut_float Tryd.underlying22 w1) (trodAll_cons_mk (shut_int Tryd.underlying2 w2) trodAll_mk0))), rfl, bel.frame _, fun h => by cases h⟩

theorem holds5 : Rows.FnNewKeyedLimitIsTheExactRateSaid :=
  OpenClaim.holds_of_wide 5 Tryd.f5 rfl rfl rfl rfl rfl rfl rfl ⟨rfl, rfl, rfl, rfl, rfl⟩ rfl rfl rfl rfl rfl (by kernel_rfl) Tryd.func5 (by kernel_rfl)
    (of_decide_eq_true (by kernel_rfl)) (by unfold Func.isWrapper; first | (rw [if_pos (by decide +kernel)]; kernel_rfl) | (rw [if_neg (by decide +kernel)]; exact ⟨rfl, rfl⟩))
    (fun os started H enc _ => lifted5 os started H enc)

theorem exactRate_proved : Rows.FnNewKeyedLimitIsTheExactRateCardSaid :=
  Claim7.holds_tied_plain_at .later [] [.data] true (true, "6e56a65cce935dc76f777ce54eefe0209c7a14015783530a7c6003103a0e0dd2") false
    holds5 (fun _ h => by cases h) (by kernel_rfl) (fun _ h => by cases h) fnNewKeyedLimitIsTheExactRate_row_tie rfl ⟨rfl, rfl⟩ (by kernel_rfl) rfl
    (fun f fn hf hfn => by
      obtain rfl : f = 5 := Option.some.inj ((show Tryd.prog.funcNamed Rows.fnNewKeyedLimitIsTheExactRateRow.func = some 5 by kernel_rfl).symm.trans hf) |>.symm
      obtain rfl : fn = Tryd.f5 := (Option.some.inj (Tryd.func5.symm.trans hfn)).symm
      exact ⟨by kernel_rfl, fun j t ht => by
        rw [Tryd.params5] at ht
        rcases j with _ | _ | _ | j
        · obtain rfl : t = 3 := by simpa using ht.symm
          exact (show Tryd.prog.wantsStandIn 3 = false by kernel_rfl)
        · obtain rfl : t = 22 := by simpa using ht.symm
          exact (show Tryd.prog.wantsStandIn 22 = false by kernel_rfl)
        · obtain rfl : t = 2 := by simpa using ht.symm
          exact (show Tryd.prog.wantsStandIn 2 = false by kernel_rfl)
        · simp at ht⟩)
    (by kernel_rfl)
#print axioms exactRate_proved
end Go.Proofs.Qxb6616096aDoor
