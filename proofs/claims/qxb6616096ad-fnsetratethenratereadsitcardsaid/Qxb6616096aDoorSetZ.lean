import Derived.Test.Qxb6616096aDoorSetW
import Derived.Test.Qxb6616096aDoorAdapW
namespace Go.Proofs.Qxb6616096aDoor
open Go.RowKit
set_option linter.unusedVariables false
set_option linter.unusedSimpArgs false
set_option maxRecDepth 100000

/-- What ZZsetRate holds. -/
structure ZH (w : World) (A LB KB : Nat) (burst : Int) (mn mx it ic dc : Nat) (per m o e d f : Int) (wx : World) : Prop where
  ad : Adap A LB KB burst mn mx it ic dc per m o e d f wx
  low : Below w.heap.size w wx

theorem ZH.below {w : World} {A LB KB : Nat} {burst : Int} {mn mx it ic dc : Nat} {per m o e d f : Int} {wx w' : World} (h : ZH w A LB KB burst mn mx it ic dc per m o e d f wx) (hb : Below wx.heap.size wx w') : ZH w A LB KB burst mn mx it ic dc per m o e d f w' := ⟨h.ad.below hb, h.low.trans (hb.mono h.low.size)⟩
theorem ZH.drew {w : World} {A LB KB : Nat} {burst : Int} {mn mx it ic dc : Nat} {per m o e d f : Int} {wx : World} (h : ZH w A LB KB burst mn mx it ic dc per m o e d f wx) : ZH w A LB KB burst mn mx it ic dc per m o e d f wx.drew := ⟨h.ad.drew, h.low.drew⟩
theorem ZH.alloc {w : World} {A LB KB : Nat} {burst : Int} {mn mx it ic dc : Nat} {per m o e d f : Int} {wx : World} (h : ZH w A LB KB burst mn mx it ic dc per m o e d f wx) (x : Obj) : ZH w A LB KB burst mn mx it ic dc per m o e d f (wx.alloc x) := h.below ((Below.refl _ _).alloc (Nat.le_refl _) _)

set_option maxHeartbeats 4000000 in
theorem setz_w (A LB KB S i : Nat) (burst : Int) (mn mx it ic dc t : Nat) (per m o e d f m' o' e' d' f' now : Int) (w : World) (hA : ZH w A LB KB burst mn mx it ic dc per m o e d f w) (Post : World → Prop)
    (C21 : Hid (∀ w', ZH w A LB KB burst mn mx it ic dc per m o e d f w' → Calls Tryd.prog 21 #[.agg #[.int .i64 burst, .float .f64 mn, .float .f64 mx, .float .f64 it, .float .f64 ic, .float .f64 dc, .int .i64 per], .float .f64 t] w' fun e' w'' => e' = .returned (.agg #[.int .i64 burst, .float .f64 t, .int .i64 per]) ∧ ZH w A LB KB burst mn mx it ic dc per m o e d f w''))
    (C23 : Hid (∀ w', ZH w A LB KB burst mn mx it ic dc per m o e d f w' → Calls Tryd.prog 23 #[.agg #[.int .i64 burst, .float .f64 t, .int .i64 per]] w' fun e'' w'' => e'' = .returned (.agg #[.int .u64 m', .int .u64 o', .int .i64 e', .int .u64 d', .int .u64 f']) ∧ ZH w A LB KB burst mn mx it ic dc per m o e d f w''))
    (C24 : Hid (∀ w', ZH w A LB KB burst mn mx it ic dc per m o e d f w' → Calls Tryd.prog 24 #[.pointer (some ⟨S, 2, Option.none⟩), .pointer (some ⟨KB, 0, Option.none⟩), .int .i64 (i : Int), .pointer (some ⟨w'.heap.size, 0, Option.none⟩), .int .i64 now] (w'.alloc (.cells #[.float .f64 t, .int .u64 m', .int .u64 o', .int .i64 e', .int .u64 d', .int .u64 f'] 101)) fun e'' w'' => e'' = .returned (.tuple #[]) ∧ Post w'')) :
    Calls Tryd.prog 11 #[.pointer (some ⟨A, 0, Option.none⟩), .pointer (some ⟨S, 0, Option.none⟩), .int .i64 (i : Int), .float .f64 t, .int .i64 now] w fun e'' w' => e'' = .returned (.tuple #[]) ∧ Post w' := by
  have hA1 := hA.drew
  have a0 := hA1.ad.a0; have a1 := hA1.ad.a1; have a2 := hA1.ad.a2; have a3 := hA1.ad.a3; have a4 := hA1.ad.a4; have a5 := hA1.ad.a5; have a6 := hA1.ad.a6; have a7 := hA1.ad.a7; have al := hA1.ad.l
  have a0' := hA.ad.a0; have a1' := hA.ad.a1; have a2' := hA.ad.a2; have a3' := hA.ad.a3; have a4' := hA.ad.a4; have a5' := hA.ad.a5; have a6' := hA.ad.a6; have a7' := hA.ad.a7; have al' := hA.ad.l
  go_enter Tryd.func11, Tryd.ntmps11
  go_wp2_with fail
  go_region_with (first | (go_at_call 21; refine (C21.out _ (by assumption)).mono ?_; rintro e w5 ⟨rfl, hS5⟩; have c0 := hS5.ad.a0; have cl := hS5.ad.l) | (go_at_call 23; refine (C23.out _ (by assumption)).mono ?_; rintro e w6 ⟨rfl, hS6⟩; have d0 := hS6.ad.a0; have dl := hS6.ad.l; have d0a := fun x => (hS6.alloc x).ad.a0; have dla := fun x => (hS6.alloc x).ad.l) | (go_at_call 24; refine (C24.out _ (by assumption)).mono ?_; rintro e w7 ⟨rfl, hP⟩))
  all_goals go_wp2_with fail
  all_goals simp [bodyPost, results, Tryd.results11, go_sem]
  all_goals exact hP

end Go.Proofs.Qxb6616096aDoor
