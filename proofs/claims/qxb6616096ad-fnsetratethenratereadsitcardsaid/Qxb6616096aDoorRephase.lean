import Derived.Test.Qxb6616096aDoorNanos
namespace Go.Proofs.Qxb6616096aDoor
open Go.RowKit
set_option linter.unusedVariables false
set_option linter.unusedSimpArgs false
set_option maxRecDepth 100000
open Pl

theorem rephase_new (m o e d f m' o' e' d' f' : Int) (w : World) :
    Held2 w m o e d f m' o' e' d' f' ((w.alloc (.cells #[.int .u64 m, .int .u64 o, .int .i64 e, .int .u64 d, .int .u64 f] 54)).alloc (.cells #[.int .u64 m', .int .u64 o', .int .i64 e', .int .u64 d', .int .u64 f'] 54)) :=
  ⟨by simp [go_sem], by simp [go_sem], by simp [go_sem], by simp [go_sem], by simp [go_sem], by simp [go_sem], by simp [go_sem], by simp [go_sem], by simp [go_sem], by simp [go_sem], ((Below.refl _ _).alloc (Nat.le_refl _) _).alloc (by simp) _⟩

set_option maxHeartbeats 1000000 in
theorem rephase_w0 (Z : Prop) (m o e d f m' o' e' f' p mo : Int) (HMO : Hid (Word mo)) (w : World)
    (C50 : Hid (∀ w', Calls Tryd.prog 50 #[.agg #[.int .u64 m, .int .u64 o, .int .i64 e, .int .u64 d, .int .u64 f], .int .u64 p, .agg #[.int .u64 m', .int .u64 o', .int .i64 e', .int .u64 0, .int .u64 f']] w' fun e'' w'' => RetZ Z e'' ∧ Below w'.heap.size w' w'')) :
    Calls Tryd.prog 36 #[.agg #[.int .u64 m, .int .u64 o, .int .i64 e, .int .u64 d, .int .u64 f], .int .u64 p, .agg #[.int .u64 m', .int .u64 o', .int .i64 e', .int .u64 0, .int .u64 f'], .int .u64 mo] w fun e'' w' => RetZ Z e'' ∧ Below w.heap.size w w' := by
  have HN : Hid (Held2 w m o e d f m' o' e' 0 f' ((w.alloc (.cells #[.int .u64 m, .int .u64 o, .int .i64 e, .int .u64 d, .int .u64 f] 54)).alloc (.cells #[.int .u64 m', .int .u64 o', .int .i64 e', .int .u64 0, .int .u64 f'] 54))) := rephase_new m o e d f m' o' e' 0 f' w
  go_enter Tryd.func36, Tryd.ntmps36
  go_wp2_with fail
  refine (C50.out _).mono ?_
  rintro e w1 ⟨⟨t, rfl, ht, hz⟩, hb⟩
  have hH := HN.out.below hb
  have t0 := hH.t0; have t2 := hH.t2; have t3 := hH.t3
  have HL : Hid (Below w.heap.size w w1 ∧ Word t ∧ (Z → t = 0)) := ⟨hH.low, ht, hz⟩
  clear hH hb ht hz HN
  go_wp2_with fail
  go_ret
  refine ⟨⟨_, rfl, ?_, ?_⟩, HL.out.1⟩
  · have h1 := HL.out.2.1; have h2 := HMO.out
    show Word (min t mo)
    exact ⟨by have := h1.1; have := h2.1; omega, by have := h1.2; omega⟩
  · intro z
    show min t mo = 0
    have h1 := HL.out.2.2 z
    have h2 := HMO.out.1
    omega

set_option maxHeartbeats 1000000 in
theorem rephase_w1 (Z : Prop) (m o e d f m' o' e' d' f' p mo : Int) (s : Nat) (hs : max e' 0 = (s : Int)) (kd : (d' == 0) = false) (w : World)
    (C50 : Hid (∀ w', Calls Tryd.prog 50 #[.agg #[.int .u64 m, .int .u64 o, .int .i64 e, .int .u64 d, .int .u64 f], .int .u64 p, .agg #[.int .u64 m', .int .u64 o', .int .i64 e', .int .u64 d', .int .u64 f']] w' fun e'' w'' => RetZ Z e'' ∧ Below w'.heap.size w' w'')) :
    Calls Tryd.prog 36 #[.agg #[.int .u64 m, .int .u64 o, .int .i64 e, .int .u64 d, .int .u64 f], .int .u64 p, .agg #[.int .u64 m', .int .u64 o', .int .i64 e', .int .u64 d', .int .u64 f'], .int .u64 mo] w fun e'' w' => RetZ Z e'' ∧ Below w.heap.size w w' := by
  have HN : Hid (Held2 w m o e d f m' o' e' d' f' ((w.alloc (.cells #[.int .u64 m, .int .u64 o, .int .i64 e, .int .u64 d, .int .u64 f] 54)).alloc (.cells #[.int .u64 m', .int .u64 o', .int .i64 e', .int .u64 d', .int .u64 f'] 54))) := rephase_new m o e d f m' o' e' d' f' w
  go_enter Tryd.func36, Tryd.ntmps36
  go_wp2_with fail
  refine (C50.out _).mono ?_
  rintro e w1 ⟨⟨t, rfl, ht, hz⟩, hb⟩
  have hH := HN.out.below hb
  have t0 := hH.t0; have t2 := hH.t2; have t3 := hH.t3
  have HL : Hid (Below w.heap.size w w1 ∧ Word t ∧ (Z → t = 0)) := ⟨hH.low, ht, hz⟩
  clear hH hb ht hz HN
  go_wp2_with fail
  go_ret
  refine ⟨⟨_, rfl, ?_, ?_⟩, HL.out.1⟩
  · show Word (IntKind.u64.wrap (IntKind.u64.wrap (t * m') * 2 ^ min s 64))
    rw [IntKind.wrap_u64]; exact ⟨by omega, by omega⟩
  · intro z
    show IntKind.u64.wrap (IntKind.u64.wrap (t * m') * 2 ^ min s 64) = 0
    rw [HL.out.2.2 z, Int.zero_mul]
    simp [IntKind.wrap_u64]

theorem rephase_c {b m o : Nat} {e : Int} {d f : Nat} {m' o' : Nat} {e' : Int} {d' f' : Nat} {b' : Nat} (h : RateOK b m o e d f) (h' : RateOK b' m' o' e' d' f') (p mo : Int) (hp : Word p) (hmo : Word mo) (w : World) :
    Calls Tryd.prog 36 #[.agg #[.int .u64 (m : Int), .int .u64 (o : Int), .int .i64 e, .int .u64 (d : Int), .int .u64 (f : Int)], .int .u64 p, .agg #[.int .u64 (m' : Int), .int .u64 (o' : Int), .int .i64 e', .int .u64 (d' : Int), .int .u64 (f' : Int)], .int .u64 mo] w fun e'' w' => RetZ (p = 0) e'' ∧ Below w.heap.size w w' := by
  have C50 := fun w' => nanos_c h h' p hp w'
  by_cases hd : d' = 0
  · subst hd
    exact rephase_w0 (p = 0) m o e d f m' o' e' f' p mo hmo w C50
  · exact rephase_w1 (p = 0) m o e d f m' o' e' d' f' p mo (max e' 0).toNat (by omega) (by rw [beq_eq_false_iff_ne]; omega) w C50

end Go.Proofs.Qxb6616096aDoor
