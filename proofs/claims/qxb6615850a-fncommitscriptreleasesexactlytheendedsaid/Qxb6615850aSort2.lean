import Derived.Test.Qxb6615850aSort
namespace Go.Proofs.Qxb6615850a
open Go.RowKit
set_option linter.unusedVariables false

def RetOf (p : Nat → Prop) (e : Ending) : Prop := ∃ x : Nat, e = .returned (.int .i64 x) ∧ p x

set_option maxHeartbeats 1000000 in
theorem median (g E sb cap a b c : Nat) (d : List Int) (rv : Value) (ok : Int → Prop) (Env : World → Prop) (C : Cmp g E rv ok Env) (W : World) (hp : Piv g sb Env W d W) (hE : E ≤ sb) (hd : ∀ z ∈ d, ok z)
    (ha : a < d.length) (hb : b < d.length) (hc : c < d.length) (hN : d.length ≤ 1000000) :
    Calls Try.prog 48 #[.slice (some ⟨g, 0, Option.none⟩) d.length cap, .int .i64 a, .int .i64 b, .int .i64 c, .pointer (some ⟨sb, 0, Option.none⟩), .func (.func 27) #[rv] #[]] W fun e w' =>
      RetOf (fun x => x = a ∨ x = b ∨ x = c) e ∧ Piv g sb Env W d w' := by
  have HD : Hid (∀ z ∈ d, ok z) := hd
  have HP : Hid (Piv g sb Env W d W) := hp
  clear hd hp
  go_enter Try.func48, Try.ntmps48
  go_wp2_with fail
  refine (order2 g E sb cap a b d rv ok Env C _ HP.out hE HD.out ha hb hN).mono ?_
  rintro e w1 ⟨⟨x, y, rfl, hxy⟩, hp1⟩
  have HP1 : Hid (Piv g sb Env W d w1) := hp1
  have hx : x < d.length := by omega
  have hy : y < d.length := by omega
  have HXY : Hid ((x = a ∧ y = b) ∨ (x = b ∧ y = a)) := hxy
  clear hp1 hxy
  go_wp2_with fail
  refine (order2 g E sb cap y c d rv ok Env C _ ⟨HP1.out.row, HP1.out.env, HP1.out.cell, HP1.out.froz, HP1.out.lt, World.grownBy.refl _ _⟩ hE HD.out hy hc hN).mono ?_
  rintro e w2 ⟨⟨x2, y2, rfl, hxy2⟩, hp2⟩
  have HP2 : Hid (Piv g sb Env W d w2) := HP1.out.trans hp2
  have hx2 : x2 < d.length := by omega
  have hy2 : y2 < d.length := by omega
  have HXY2 : Hid ((x2 = y ∧ y2 = c) ∨ (x2 = c ∧ y2 = y)) := hxy2
  clear hp2 hxy2
  go_wp2_with fail
  refine (order2 g E sb cap x x2 d rv ok Env C _ ⟨HP2.out.row, HP2.out.env, HP2.out.cell, HP2.out.froz, HP2.out.lt, World.grownBy.refl _ _⟩ hE HD.out hx hx2 hN).mono ?_
  rintro e w3 ⟨⟨x3, y3, rfl, hxy3⟩, hp3⟩
  have HXY3 : Hid ((x3 = x ∧ y3 = x2) ∨ (x3 = x2 ∧ y3 = x)) := hxy3
  clear hxy3
  go_wp2_with fail
  go_ret
  refine ⟨⟨y3, rfl, ?_⟩, HP2.out.trans hp3⟩
  have h1 := HXY.out
  have h2 := HXY2.out
  have h3 := HXY3.out
  omega

set_option maxHeartbeats 1000000 in
theorem medianAdjacent (g E sb cap a : Nat) (d : List Int) (rv : Value) (ok : Int → Prop) (Env : World → Prop) (C : Cmp g E rv ok Env) (W : World) (hp : Piv g sb Env W d W) (hE : E ≤ sb) (hd : ∀ z ∈ d, ok z)
    (ha : 1 ≤ a) (hb : a + 1 < d.length) (hN : d.length ≤ 1000000) :
    Calls Try.prog 47 #[.slice (some ⟨g, 0, Option.none⟩) d.length cap, .int .i64 a, .pointer (some ⟨sb, 0, Option.none⟩), .func (.func 27) #[rv] #[]] W fun e w' =>
      RetOf (fun x => a - 1 ≤ x ∧ x ≤ a + 1) e ∧ Piv g sb Env W d w' := by
  obtain ⟨q, rfl⟩ : ∃ q, a = q + 1 := ⟨a - 1, by omega⟩
  have hm := median g E sb cap q (q + 1) (q + 2) d rv ok Env C W hp hE hd (by omega) (by omega) (by omega) hN
  have e1 : ((q + 1 : Nat) : Int) = (q : Int) + 1 := by omega
  have e2 : ((q + 2 : Nat) : Int) = (q : Int) + 1 + 1 := by omega
  rw [e1, e2] at hm
  rw [e1]
  have HM := hm
  clear hp hd e1 e2
  have HH : Hid (Calls Try.prog 48 #[.slice (some ⟨g, 0, Option.none⟩) d.length cap, .int .i64 q, .int .i64 ((q : Int) + 1), .int .i64 ((q : Int) + 1 + 1), .pointer (some ⟨sb, 0, Option.none⟩), .func (.func 27) #[rv] #[]] W fun e w' =>
      RetOf (fun x => x = q ∨ x = q + 1 ∨ x = q + 2) e ∧ Piv g sb Env W d w') := HM
  clear hm HM
  go_enter Try.func47, Try.ntmps47
  go_wp2_with fail
  refine HH.out.mono ?_
  rintro e w1 ⟨⟨x, rfl, hx⟩, hp1⟩
  have HX : Hid (x = q ∨ x = q + 1 ∨ x = q + 2) := hx
  clear hx
  go_wp2_with fail
  go_ret
  refine ⟨⟨x, rfl, ?_⟩, hp1⟩
  have := HX.out
  omega

def RetPiv (a b : Nat) (e : Ending) : Prop := ∃ (x : Nat) (h : Int), e = .returned (.tuple #[.int .i64 x, .int .i64 h]) ∧ a ≤ x ∧ x < b

end Go.Proofs.Qxb6615850a
