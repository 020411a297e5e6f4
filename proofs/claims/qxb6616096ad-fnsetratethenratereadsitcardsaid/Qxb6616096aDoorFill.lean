import Derived.Test.Qxb6616096aDoorDiv2
import Derived.Test.Qxb6616096aDoorFits
import Derived.Test.Qxb6616096aDoorTz
namespace Go.Proofs.Qxb6616096aDoor
open Go.RowKit
set_option linter.unusedVariables false
set_option linter.unusedSimpArgs false
set_option maxRecDepth 100000

/-- A rate in its cells. -/
def rateCells (m o e d f : Int) : Array Value := #[.int .u64 m, .int .u64 o, .int .i64 e, .int .u64 d, .int .u64 f]

/-- A call that returns two words and leaves the world. -/
def Two (F : Nat) (args : Array Value) (a b : Int) : Prop := ∀ w, Calls Tryd.prog F args w fun e w' => e = .returned (.tuple #[.int .u64 a, .int .u64 b]) ∧ w = w'

set_option maxHeartbeats 4000000 in
theorem fill_nofit (m o e d f b H L s a c : Int) (ke : decide (e < 0) = true) (hs : IntKind.i64.wrap (-e) = s) (hs' : IntKind.u64.wrap s = s)
    (c43 : Hid (Two 43 #[.int .u64 b, .int .u64 o] H L))
    (c44 : Hid (∀ w, Calls Tryd.prog 44 #[.int .u64 H, .int .u64 L, .int .u64 s] w fun e w' => e = .returned (.tuple #[.int .u64 a, .int .u64 c, .bool false]) ∧ w = w')) (w : World) :
    Calls Tryd.prog 33 #[.agg #[.int .u64 m, .int .u64 o, .int .i64 e, .int .u64 d, .int .u64 f], .int .u64 b] w fun e' w' => e' = .returned (.int .u64 18446744073709551615) ∧ ∃ n, w' = (w.alloc (.cells (rateCells m o e d f) 54)).drewN n := by
  go_enter Tryd.func33, Tryd.ntmps33
  go_wp2_with fail
  refine (c43.out _).mono ?_
  rintro e w1 ⟨rfl, rfl⟩
  go_wp2_with fail
  refine (c44.out _).mono ?_
  rintro e w1 ⟨rfl, rfl⟩
  go_wp2_with fail
  go_ret
  exact ⟨rfl, 0, rfl⟩

/-- The last part: what is left of the answer once the two words stand. -/
def TailW (m hi lo res : Int) : Prop :=
  (decide (m ≤ hi) = true ∧ res = 18446744073709551615) ∨
  ∃ q r : Int, decide (m ≤ hi) = false ∧ Hid (∀ w, Calls Tryd.prog 48 #[.int .u64 hi, .int .u64 lo, .int .u64 m] w fun e w' => e = .returned (.tuple #[.int .u64 q, .int .u64 r]) ∧ ∃ n, w' = w.drewN n) ∧
    ((r = 0 ∧ res = q) ∨ ((r != 0) = true ∧ decide (q < 18446744073709551615) = false ∧ res = q) ∨ ((r != 0) = true ∧ decide (q < 18446744073709551615) = true ∧ IntKind.u64.wrap (q + 1) = res))

set_option maxHeartbeats 8000000 in
theorem fill_fit (m o e d f b H L s a c res : Int) (ke : decide (e < 0) = true) (hs : IntKind.i64.wrap (-e) = s) (hs' : IntKind.u64.wrap s = s)
    (c43 : Hid (Two 43 #[.int .u64 b, .int .u64 o] H L))
    (c44 : Hid (∀ w, Calls Tryd.prog 44 #[.int .u64 H, .int .u64 L, .int .u64 s] w fun e w' => e = .returned (.tuple #[.int .u64 a, .int .u64 c, .bool true]) ∧ w = w')) (ht : TailW m a c res) (w : World) :
    Calls Tryd.prog 33 #[.agg #[.int .u64 m, .int .u64 o, .int .i64 e, .int .u64 d, .int .u64 f], .int .u64 b] w fun e' w' => e' = .returned (.int .u64 res) ∧ ∃ n, w' = (w.alloc (.cells (rateCells m o e d f) 54)).drewN n := by
  obtain ⟨kt, hres⟩ | ⟨q, r, kt, c48, hres⟩ := ht
  · subst hres
    go_enter Tryd.func33, Tryd.ntmps33
    go_wp2_with fail
    refine (c43.out _).mono ?_
    rintro e w1 ⟨rfl, rfl⟩
    go_wp2_with fail
    refine (c44.out _).mono ?_
    rintro e w1 ⟨rfl, rfl⟩
    go_wp2_with fail
    go_ret
    exact ⟨rfl, 0, rfl⟩
  · rcases hres with ⟨rfl, hres⟩ | ⟨kr, kq, hres⟩ | ⟨kr, kq, hres⟩
    · subst hres
      go_enter Tryd.func33, Tryd.ntmps33
      go_wp2_with fail
      refine (c43.out _).mono ?_
      rintro e w1 ⟨rfl, rfl⟩
      go_wp2_with fail
      refine (c44.out _).mono ?_
      rintro e w1 ⟨rfl, rfl⟩
      go_wp2_with fail
      refine (c48.out _).mono ?_
      rintro e w1 ⟨rfl, n, rfl⟩
      go_wp2_with fail
      go_ret
      exact ⟨rfl, n, rfl⟩
    · subst hres
      go_enter Tryd.func33, Tryd.ntmps33
      go_wp2_with fail
      refine (c43.out _).mono ?_
      rintro e w1 ⟨rfl, rfl⟩
      go_wp2_with fail
      refine (c44.out _).mono ?_
      rintro e w1 ⟨rfl, rfl⟩
      go_wp2_with fail
      refine (c48.out _).mono ?_
      rintro e w1 ⟨rfl, n, rfl⟩
      go_wp2_with fail
      go_ret
      exact ⟨rfl, n, rfl⟩
    · go_enter Tryd.func33, Tryd.ntmps33
      go_wp2_with fail
      refine (c43.out _).mono ?_
      rintro e w1 ⟨rfl, rfl⟩
      go_wp2_with fail
      refine (c44.out _).mono ?_
      rintro e w1 ⟨rfl, rfl⟩
      go_wp2_with fail
      refine (c48.out _).mono ?_
      rintro e w1 ⟨rfl, n, rfl⟩
      go_wp2_with fail
      go_ret
      exact ⟨rfl, n, rfl⟩

set_option maxHeartbeats 8000000 in
theorem fill_pos (m o e d f b H L s a c x y res : Int) (ke : decide (e < 0) = false) (hs' : IntKind.u64.wrap e = s)
    (c43 : Hid (Two 43 #[.int .u64 b, .int .u64 o] H L)) (c45 : Hid (Two 45 #[.int .u64 H, .int .u64 L, .int .u64 s] a c)) (c46 : Hid (Two 46 #[.int .u64 a, .int .u64 c, .int .u64 s] x y))
    (k1 : (x != H) = false) (k2 : (y != L) = false) (ht : TailW m a c res) (w : World) :
    Calls Tryd.prog 33 #[.agg #[.int .u64 m, .int .u64 o, .int .i64 e, .int .u64 d, .int .u64 f], .int .u64 b] w fun e' w' => e' = .returned (.int .u64 res) ∧ ∃ n, w' = (w.alloc (.cells (rateCells m o e d f) 54)).drewN n := by
  obtain ⟨kt, hres⟩ | ⟨q, r, kt, c48, hres⟩ := ht
  · subst hres
    go_enter Tryd.func33, Tryd.ntmps33
    go_wp2_with fail
    refine (c43.out _).mono ?_
    rintro e w1 ⟨rfl, rfl⟩
    go_wp2_with fail
    refine (c45.out _).mono ?_
    rintro e w1 ⟨rfl, rfl⟩
    go_wp2_with fail
    refine (c46.out _).mono ?_
    rintro e w1 ⟨rfl, rfl⟩
    go_wp2_with fail
    go_ret
    exact ⟨rfl, 0, rfl⟩
  · rcases hres with ⟨rfl, hres⟩ | ⟨kr, kq, hres⟩ | ⟨kr, kq, hres⟩
    · subst hres
      go_enter Tryd.func33, Tryd.ntmps33
      go_wp2_with fail
      refine (c43.out _).mono ?_
      rintro e w1 ⟨rfl, rfl⟩
      go_wp2_with fail
      refine (c45.out _).mono ?_
      rintro e w1 ⟨rfl, rfl⟩
      go_wp2_with fail
      refine (c46.out _).mono ?_
      rintro e w1 ⟨rfl, rfl⟩
      go_wp2_with fail
      refine (c48.out _).mono ?_
      rintro e w1 ⟨rfl, n, rfl⟩
      go_wp2_with fail
      go_ret
      exact ⟨rfl, n, rfl⟩
    · subst hres
      go_enter Tryd.func33, Tryd.ntmps33
      go_wp2_with fail
      refine (c43.out _).mono ?_
      rintro e w1 ⟨rfl, rfl⟩
      go_wp2_with fail
      refine (c45.out _).mono ?_
      rintro e w1 ⟨rfl, rfl⟩
      go_wp2_with fail
      refine (c46.out _).mono ?_
      rintro e w1 ⟨rfl, rfl⟩
      go_wp2_with fail
      refine (c48.out _).mono ?_
      rintro e w1 ⟨rfl, n, rfl⟩
      go_wp2_with fail
      go_ret
      exact ⟨rfl, n, rfl⟩
    · go_enter Tryd.func33, Tryd.ntmps33
      go_wp2_with fail
      refine (c43.out _).mono ?_
      rintro e w1 ⟨rfl, rfl⟩
      go_wp2_with fail
      refine (c45.out _).mono ?_
      rintro e w1 ⟨rfl, rfl⟩
      go_wp2_with fail
      refine (c46.out _).mono ?_
      rintro e w1 ⟨rfl, rfl⟩
      go_wp2_with fail
      refine (c48.out _).mono ?_
      rintro e w1 ⟨rfl, n, rfl⟩
      go_wp2_with fail
      go_ret
      exact ⟨rfl, n, rfl⟩

set_option maxHeartbeats 8000000 in
theorem fill_carry1 (m o e d f b H L s a c x y c' a' cy res : Int) (ke : decide (e < 0) = false) (hs' : IntKind.u64.wrap e = s)
    (c43 : Hid (Two 43 #[.int .u64 b, .int .u64 o] H L)) (c45 : Hid (Two 45 #[.int .u64 H, .int .u64 L, .int .u64 s] a c)) (c46 : Hid (Two 46 #[.int .u64 a, .int .u64 c, .int .u64 s] x y))
    (k1 : (x != H) = true) (hadd : ∀ w, (callFunc 47 #[.int .u64 c, .int .u64 1, .int .u64 0]).run Tryd.prog w = .ok (.value (.tuple #[.int .u64 c', .int .u64 cy])) w)
    (ha : IntKind.u64.wrap (a + cy) = a') (ht : TailW m a' c' res) (w : World) :
    Calls Tryd.prog 33 #[.agg #[.int .u64 m, .int .u64 o, .int .i64 e, .int .u64 d, .int .u64 f], .int .u64 b] w fun e' w' => e' = .returned (.int .u64 res) ∧ ∃ n, w' = (w.alloc (.cells (rateCells m o e d f) 54)).drewN n := by
  obtain ⟨kt, hres⟩ | ⟨q, r, kt, c48, hres⟩ := ht
  · subst hres
    go_enter Tryd.func33, Tryd.ntmps33
    go_wp2_with fail
    refine (c43.out _).mono ?_
    rintro e w1 ⟨rfl, rfl⟩
    go_wp2_with fail
    refine (c45.out _).mono ?_
    rintro e w1 ⟨rfl, rfl⟩
    go_wp2_with fail
    refine (c46.out _).mono ?_
    rintro e w1 ⟨rfl, rfl⟩
    go_wp2_with (simp only [hadd])
    go_ret
    exact ⟨rfl, 0, rfl⟩
  · rcases hres with ⟨rfl, hres⟩ | ⟨kr, kq, hres⟩ | ⟨kr, kq, hres⟩
    · subst hres
      go_enter Tryd.func33, Tryd.ntmps33
      go_wp2_with fail
      refine (c43.out _).mono ?_
      rintro e w1 ⟨rfl, rfl⟩
      go_wp2_with fail
      refine (c45.out _).mono ?_
      rintro e w1 ⟨rfl, rfl⟩
      go_wp2_with fail
      refine (c46.out _).mono ?_
      rintro e w1 ⟨rfl, rfl⟩
      go_wp2_with (simp only [hadd])
      refine (c48.out _).mono ?_
      rintro e w1 ⟨rfl, n, rfl⟩
      go_wp2_with fail
      go_ret
      exact ⟨rfl, n, rfl⟩
    · subst hres
      go_enter Tryd.func33, Tryd.ntmps33
      go_wp2_with fail
      refine (c43.out _).mono ?_
      rintro e w1 ⟨rfl, rfl⟩
      go_wp2_with fail
      refine (c45.out _).mono ?_
      rintro e w1 ⟨rfl, rfl⟩
      go_wp2_with fail
      refine (c46.out _).mono ?_
      rintro e w1 ⟨rfl, rfl⟩
      go_wp2_with (simp only [hadd])
      refine (c48.out _).mono ?_
      rintro e w1 ⟨rfl, n, rfl⟩
      go_wp2_with fail
      go_ret
      exact ⟨rfl, n, rfl⟩
    · go_enter Tryd.func33, Tryd.ntmps33
      go_wp2_with fail
      refine (c43.out _).mono ?_
      rintro e w1 ⟨rfl, rfl⟩
      go_wp2_with fail
      refine (c45.out _).mono ?_
      rintro e w1 ⟨rfl, rfl⟩
      go_wp2_with fail
      refine (c46.out _).mono ?_
      rintro e w1 ⟨rfl, rfl⟩
      go_wp2_with (simp only [hadd])
      refine (c48.out _).mono ?_
      rintro e w1 ⟨rfl, n, rfl⟩
      go_wp2_with fail
      go_ret
      exact ⟨rfl, n, rfl⟩

set_option maxHeartbeats 8000000 in
theorem fill_carry2 (m o e d f b H L s a c x y c' a' cy res : Int) (ke : decide (e < 0) = false) (hs' : IntKind.u64.wrap e = s)
    (c43 : Hid (Two 43 #[.int .u64 b, .int .u64 o] H L)) (c45 : Hid (Two 45 #[.int .u64 H, .int .u64 L, .int .u64 s] a c)) (c46 : Hid (Two 46 #[.int .u64 a, .int .u64 c, .int .u64 s] x y))
    (k1 : (x != H) = false) (k2 : (y != L) = true) (hadd : ∀ w, (callFunc 47 #[.int .u64 c, .int .u64 1, .int .u64 0]).run Tryd.prog w = .ok (.value (.tuple #[.int .u64 c', .int .u64 cy])) w)
    (ha : IntKind.u64.wrap (a + cy) = a') (ht : TailW m a' c' res) (w : World) :
    Calls Tryd.prog 33 #[.agg #[.int .u64 m, .int .u64 o, .int .i64 e, .int .u64 d, .int .u64 f], .int .u64 b] w fun e' w' => e' = .returned (.int .u64 res) ∧ ∃ n, w' = (w.alloc (.cells (rateCells m o e d f) 54)).drewN n := by
  obtain ⟨kt, hres⟩ | ⟨q, r, kt, c48, hres⟩ := ht
  · subst hres
    go_enter Tryd.func33, Tryd.ntmps33
    go_wp2_with fail
    refine (c43.out _).mono ?_
    rintro e w1 ⟨rfl, rfl⟩
    go_wp2_with fail
    refine (c45.out _).mono ?_
    rintro e w1 ⟨rfl, rfl⟩
    go_wp2_with fail
    refine (c46.out _).mono ?_
    rintro e w1 ⟨rfl, rfl⟩
    go_wp2_with (simp only [hadd])
    go_ret
    exact ⟨rfl, 0, rfl⟩
  · rcases hres with ⟨rfl, hres⟩ | ⟨kr, kq, hres⟩ | ⟨kr, kq, hres⟩
    · subst hres
      go_enter Tryd.func33, Tryd.ntmps33
      go_wp2_with fail
      refine (c43.out _).mono ?_
      rintro e w1 ⟨rfl, rfl⟩
      go_wp2_with fail
      refine (c45.out _).mono ?_
      rintro e w1 ⟨rfl, rfl⟩
      go_wp2_with fail
      refine (c46.out _).mono ?_
      rintro e w1 ⟨rfl, rfl⟩
      go_wp2_with (simp only [hadd])
      refine (c48.out _).mono ?_
      rintro e w1 ⟨rfl, n, rfl⟩
      go_wp2_with fail
      go_ret
      exact ⟨rfl, n, rfl⟩
    · subst hres
      go_enter Tryd.func33, Tryd.ntmps33
      go_wp2_with fail
      refine (c43.out _).mono ?_
      rintro e w1 ⟨rfl, rfl⟩
      go_wp2_with fail
      refine (c45.out _).mono ?_
      rintro e w1 ⟨rfl, rfl⟩
      go_wp2_with fail
      refine (c46.out _).mono ?_
      rintro e w1 ⟨rfl, rfl⟩
      go_wp2_with (simp only [hadd])
      refine (c48.out _).mono ?_
      rintro e w1 ⟨rfl, n, rfl⟩
      go_wp2_with fail
      go_ret
      exact ⟨rfl, n, rfl⟩
    · go_enter Tryd.func33, Tryd.ntmps33
      go_wp2_with fail
      refine (c43.out _).mono ?_
      rintro e w1 ⟨rfl, rfl⟩
      go_wp2_with fail
      refine (c45.out _).mono ?_
      rintro e w1 ⟨rfl, rfl⟩
      go_wp2_with fail
      refine (c46.out _).mono ?_
      rintro e w1 ⟨rfl, rfl⟩
      go_wp2_with (simp only [hadd])
      refine (c48.out _).mono ?_
      rintro e w1 ⟨rfl, n, rfl⟩
      go_wp2_with fail
      go_ret
      exact ⟨rfl, n, rfl⟩

end Go.Proofs.Qxb6616096aDoor
