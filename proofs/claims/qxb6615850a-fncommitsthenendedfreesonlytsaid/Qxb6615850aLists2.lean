import Derived.Test.Qxb6615850aLists
import Derived.Deep.RegionHeld3
import Derived.OwnWalk
import Derived.Deep.RegionLaw
import Derived.Deep.DeepCutAuto
import Derived.Deep.LoopGhost
namespace Go.Proofs.Qxb6615850a
open Go.RowKit
set_option linter.unusedVariables false

/-- z is an item below x that u holds X on. -/
def inX (ws : Row) (x u : Nat) (z : Int) : Prop := ∃ q : Nat, q < x ∧ z = (q : Int) ∧ ws.zs.getD q 0 = (u : Int)
/-- z is an item below x that u holds S on, or is x, and u one of the first j readers zs. -/
def inS (R : Nat → Row) (x u : Nat) (zs : List Int) (j : Nat) (z : Int) : Prop := ∃ q : Nat, z = (q : Int) ∧ ((q < x ∧ among (R q).zs u = true) ∨ (q = x ∧ among (zs.take j) u = true))

/-- The lists when the writers below x1, the readers below x and the first j readers zs of x have been looked at. -/
structure Lw (ws : Row) (R : Nat → Row) (n : Nat) (w : World) (x1 x : Nat) (zs : List Int) (j T : Nat) (f : Bool → Nat → List Int) (v : Bool → Nat → Value) (wx : World) : Prop where
  low : Below w.heap.size w wx
  hl : HL wx w.heap.size n (fun c => if c then w.heap.size else w.heap.size + 1) f v
  xs : ∀ u z, u < n → (z ∈ f true u ↔ inX ws x1 u z)
  ss : ∀ u z, u < n → (z ∈ f false u ↔ inS R x u zs j z)
  len : ∀ c u, u < n → (f c u).length ≤ T

theorem lists_new (n : Nat) (w : World) : HL ((w.alloc (.cells (zeros #[.slice Option.none 0 0] n) 22)).alloc (.cells (zeros #[.slice Option.none 0 0] n) 22)) w.heap.size n (fun c => if c then w.heap.size else w.heap.size + 1) (fun _ _ => []) (fun _ _ => .slice Option.none 0 0) where
  ne := by simp
  lo := fun c => by cases c <;> simp <;> omega
  cell := fun c u hu => by
    cases c
    · have : w.heap.size + 1 = (w.alloc (.cells (zeros #[.slice Option.none 0 0] n) 22)).heap.size := by simp
      simp only [Bool.false_eq_true, if_false]
      rw [this, World.cell?_alloc_new, zeros_get _ _ _ hu]; simp [Nat.mod_one]
    · simp only [if_true]
      rw [World.cell?_of_block (w := w.alloc (.cells (zeros #[.slice Option.none 0 0] n) 22)) (Below.heap_alloc _ _ _ (by simp)), World.cell?_alloc_new, zeros_get _ _ _ hu]; simp [Nat.mod_one]
  froz := fun c u hu => by
    cases c
    · have : w.heap.size + 1 = (w.alloc (.cells (zeros #[.slice Option.none 0 0] n) 22)).heap.size := by simp
      simp only [Bool.false_eq_true, if_false]
      rw [this, World.frozen?_alloc_new]
    · simp only [if_true]
      rw [World.frozen?_of_block (w := w.alloc (.cells (zeros #[.slice Option.none 0 0] n) 22)) (Below.heap_alloc _ _ _ (by simp)), World.frozen?_alloc_new]
  row := fun c u hu => World.ownsRow_nil _ _ _ _
  off := fun c u hu c' => by simp [Value.ownBlock]
  dis := fun c u c' u' hu hu' h => .inl rfl

theorem total_mono (R : Nat → Row) : ∀ (a b : Nat), a ≤ b → total R a ≤ total R b
  | a, 0, h => by obtain rfl : a = 0 := by omega
                  exact Nat.le_refl _
  | a, b + 1, h => by
    by_cases e : a = b + 1
    · subst e; exact Nat.le_refl _
    · have := total_mono R a b (by omega)
      simp only [total]; omega

theorem Lw.pushX {ws : Row} {R : Nat → Row} {n : Nat} {w : World} {x x0 : Nat} {zs : List Int} {j T : Nat} {f : Bool → Nat → List Int} {v v' : Bool → Nat → Value} {wx W' : World} (h : Lw ws R n w x x0 zs j T f v wx) (q : Nat) (hq : q < n) (hz : ws.zs.getD x 0 = (q : Int))
    (HN : HL W' w.heap.size n (fun c => if c then w.heap.size else w.heap.size + 1) (upd f true q (f true q ++ [(x : Int)])) v') (hb : Below w.heap.size wx W') : Lw ws R n w (x + 1) x0 zs j (T + 1) (upd f true q (f true q ++ [(x : Int)])) v' W' where
  low := h.low.trans hb
  hl := HN
  xs := fun u z hu => by
    by_cases e : u = q
    · subst e
      rw [upd_same, List.mem_append, h.xs u z hu]
      constructor
      · rintro (⟨q', h1, h2, h3⟩ | h1)
        · exact ⟨q', by omega, h2, h3⟩
        · exact ⟨x, by omega, by simpa using h1, hz⟩
      · rintro ⟨q', h1, h2, h3⟩
        by_cases e : q' = x
        · subst e; exact .inr (by simp [h2])
        · exact .inl ⟨q', by omega, h2, h3⟩
    · rw [upd_other _ _ _ _ _ _ (.inr e), h.xs u z hu]
      constructor
      · rintro ⟨q', h1, h2, h3⟩
        exact ⟨q', by omega, h2, h3⟩
      · rintro ⟨q', h1, h2, h3⟩
        refine ⟨q', ?_, h2, h3⟩
        by_cases e2 : q' = x
        · subst e2; rw [hz] at h3; omega
        · omega
  ss := fun u z hu => by rw [upd_other _ _ _ _ _ _ (.inl (by simp))]; exact h.ss u z hu
  len := fun c u hu => by
    have := h.len c u hu
    by_cases e : c = true ∧ u = q
    · obtain ⟨rfl, rfl⟩ := e
      rw [upd_same]; simp; omega
    · rw [upd_other _ _ _ _ _ _ (by by_cases e1 : c = true; exact .inr (fun e2 => e ⟨e1, e2⟩); exact .inl e1)]; omega

theorem Lw.skipX {ws : Row} {R : Nat → Row} {n : Nat} {w : World} {x x0 : Nat} {zs : List Int} {j T : Nat} {f : Bool → Nat → List Int} {v : Bool → Nat → Value} {wx : World} (h : Lw ws R n w x x0 zs j T f v wx) (hz : ws.zs.getD x 0 < 0) : Lw ws R n w (x + 1) x0 zs j (T + 1) f v wx where
  low := h.low
  hl := h.hl
  xs := fun u z hu => by
    rw [h.xs u z hu]
    constructor
    · rintro ⟨q', h1, h2, h3⟩
      exact ⟨q', by omega, h2, h3⟩
    · rintro ⟨q', h1, h2, h3⟩
      refine ⟨q', ?_, h2, h3⟩
      by_cases e2 : q' = x
      · subst e2; omega
      · omega
  ss := h.ss
  len := fun c u hu => by have := h.len c u hu; omega

theorem Lw.pushS {ws : Row} {R : Nat → Row} {n : Nat} {w : World} {x x1 : Nat} {zs : List Int} {j T : Nat} {f : Bool → Nat → List Int} {v v' : Bool → Nat → Value} {wx W' : World} (h : Lw ws R n w x1 x zs j T f v wx) (hj : j < zs.length) (r : Nat) (hr : r < n) (hz : zs.getD j 0 = (r : Int))
    (HN : HL W' w.heap.size n (fun c => if c then w.heap.size else w.heap.size + 1) (upd f false r (f false r ++ [(x : Int)])) v') (hb : Below w.heap.size wx W') : Lw ws R n w x1 x zs (j + 1) (T + 1) (upd f false r (f false r ++ [(x : Int)])) v' W' where
  low := h.low.trans hb
  hl := HN
  xs := fun u z hu => by rw [upd_other _ _ _ _ _ _ (.inl (by simp))]; exact h.xs u z hu
  ss := fun u z hu => by
    by_cases e : u = r
    · subst e
      rw [upd_same, List.mem_append, h.ss u z hu]
      constructor
      · rintro (⟨q', h2, h3⟩ | h1)
        · refine ⟨q', h2, ?_⟩
          rcases h3 with h3 | h3
          · exact .inl h3
          · exact .inr ⟨h3.1, by rw [among_succ _ _ _ hj, h3.2]; rfl⟩
        · refine ⟨x, by simpa using h1, .inr ⟨rfl, ?_⟩⟩
          rw [among_succ _ _ _ hj, hz]; simp
      · rintro ⟨q', h2, h3⟩
        rcases h3 with h3 | h3
        · exact .inl ⟨q', h2, .inl h3⟩
        · right; simp; omega
    · rw [upd_other _ _ _ _ _ _ (.inr e), h.ss u z hu]
      have he : among (zs.take (j + 1)) u = among (zs.take j) u := by
        rw [among_succ _ _ _ hj, hz]
        have : decide ((r : Int) = (u : Int)) = false := by simp; omega
        rw [this, Bool.or_false]
      unfold inS
      rw [he]
  len := fun c u hu => by
    have := h.len c u hu
    by_cases e : c = false ∧ u = r
    · obtain ⟨rfl, rfl⟩ := e
      rw [upd_same]; simp; omega
    · rw [upd_other _ _ _ _ _ _ (by by_cases e1 : c = false; exact .inr (fun e2 => e ⟨e1, e2⟩); exact .inl e1)]; omega

theorem Lw.turn {ws : Row} {R : Nat → Row} {n : Nat} {w : World} {x x' x1 : Nat} {zs zs' : List Int} {j j' T T' : Nat} {f : Bool → Nat → List Int} {v : Bool → Nat → Value} {wx : World} (h : Lw ws R n w x1 x zs j T f v wx) (he : ∀ u z, inS R x u zs j z ↔ inS R x' u zs' j' z) (hT : T ≤ T') : Lw ws R n w x1 x' zs' j' T' f v wx where
  low := h.low
  hl := h.hl
  xs := h.xs
  ss := fun u z hu => (h.ss u z hu).trans (he u z)
  len := fun c u hu => Nat.le_trans (h.len c u hu) hT

theorem inS_start (R : Nat → Row) (x u : Nat) (zs : List Int) (z : Int) : inS R x u [] 0 z ↔ inS R x u zs 0 z := by simp [inS, among]
theorem inS_next (R : Nat → Row) (x u : Nat) (zs : List Int) (j : Nat) (z : Int) (hz : (R x).zs = zs) (hj : zs.length ≤ j) : inS R x u zs j z ↔ inS R (x + 1) u [] 0 z := by
  unfold inS
  rw [List.take_of_length_le hj, ← hz]
  constructor
  · rintro ⟨q, h1, h2⟩
    refine ⟨q, h1, .inl ?_⟩
    rcases h2 with h2 | ⟨rfl, h2⟩
    · exact ⟨by omega, h2.2⟩
    · exact ⟨by omega, h2⟩
  · rintro ⟨q, h1, h2⟩
    refine ⟨q, h1, ?_⟩
    rcases h2 with h2 | h2
    · by_cases e : q = x
      · subst e; exact .inr ⟨rfl, h2.2⟩
      · exact .inl ⟨by omega, h2.2⟩
    · simp [among] at h2

/-- What heldLists gives. -/
def RetL (ws : Row) (R : Nat → Row) (n k : Nat) (w : World) (e : Ending) (w' : World) : Prop :=
  e = .returned (.tuple #[.slice (some (ad w.heap.size 0)) n n, .slice (some (ad (w.heap.size + 1) 0)) n n]) ∧ ∃ f v, Lw ws R n w k k [] 0 (k + total R k) f v w'

set_option maxRecDepth 100000 in
set_option maxHeartbeats 8000000 in
theorem lists_any (ws : Row) (a : Option Addr) (k c n : Nat) (R : Nat → Row) (w : World) (hw : IsRow w ws) (hR : IsRows w a k R) (hok : TableOK n ws k R) (hn : n ≤ 65536) (hk : k ≤ 65536) (hT : total R k ≤ 131072) :
    Calls Try.prog 15 #[.int .i64 n, .slice ws.a ws.len ws.cap, .slice a k c] w (RetL ws R n k w) := by
  obtain ⟨hkl, hok⟩ := hok
  have HOK : Hid (∀ x, x < k → OKat n ws R x) := hok
  clear hok
  obtain ⟨wa, wl, wcp, wz⟩ := ws
  dsimp only at hkl
  have hkl1 : k ≤ wl := by omega
  have hkl2 : wl ≤ k := by omega
  clear hkl
  have m1 := run_mk 23 22 _ 1 24 Try.underlying23 I22 n (by omega) (by omega) w
  have m2 := run_mk 23 22 _ 1 24 Try.underlying23 I22 n (by omega) (by omega) (w.alloc (.cells (zeros #[.slice Option.none 0 0] (n * 1)) 22))
  rw [show (w.alloc (.cells (zeros #[.slice Option.none 0 0] (n * 1)) 22)).heap.size = w.heap.size + 1 by simp] at m2
  have H0 : Aside (∃ f v, Lw ⟨wa, wl, wcp, wz⟩ R n w 0 0 [] 0 0 f v ((w.alloc (.cells (zeros #[.slice Option.none 0 0] n) 22)).alloc (.cells (zeros #[.slice Option.none 0 0] n) 22))) := by
    refine ⟨_, _, ⟨((Below.refl _ w).alloc (Nat.le_refl _) _).alloc (by simp) _, lists_new n w, fun u z hu => ?_, fun u z hu => ?_, fun c u hu => by simp⟩⟩
    · simp [inX]
    · simp [inS, among]
  have e1 : ∀ z : Value, z.cells = #[z] → True := fun _ _ => trivial
  simp only [Nat.mul_one] at m1 m2
  have m1' : (Instr.makeSlice 23 (.int .i64 n) (.int .i64 n)).run Try.prog w = .ok (.slice (some (ad w.heap.size 0)) n n) (w.alloc (.cells (zeros #[.slice Option.none 0 0] n) 22)) := m1
  have m2' : (Instr.makeSlice 23 (.int .i64 n) (.int .i64 n)).run Try.prog (w.alloc (.cells (zeros #[.slice Option.none 0 0] n) 22)) = .ok (.slice (some (ad (w.heap.size + 1) 0)) n n) ((w.alloc (.cells (zeros #[.slice Option.none 0 0] n) 22)).alloc (.cells (zeros #[.slice Option.none 0 0] n) 22)) := m2
  clear m1 m2 e1
  go_enter Try.func15, Try.ntmps15
  go_wp2_with fail
  go_loopg [10, 11, 12] k (fun gk s10 s11 s12 wx => ∃ x : Nat, s10 = .int .i64 x ∧ x ≤ k ∧ gk = k - x ∧ Aside (∃ f v, Lw ⟨wa, wl, wcp, wz⟩ R n w x x [] 0 (x + total R x) f v wx))
  case atStart => exact ⟨0, rfl, Nat.zero_le _, rfl, H0⟩
  case round =>
    obtain ⟨x, rfl, hx, hgk, HT⟩ := hrel
    clear H0 m1' m2'
    by_cases hlt : x < k
    · obtain ⟨wb, wo, hwa, hwb, hwc⟩ := hw.at_ (by show 0 < wl; omega)
      dsimp only at hwa
      subst hwa
      obtain ⟨b, o, rfl, hbl, hcR⟩ := hR.at_ (by omega)
      obtain ⟨f, v, HL0⟩ := HT.out
      have HLw : Aside (Lw ⟨some ⟨wb, wo, Option.none⟩, wl, wcp, wz⟩ R n w x x [] 0 (x + total R x) f v wr) := HL0
      have hbel : Hid (Below w.heap.size w wr) := HL0.low
      clear HL0 HT
      have cw : wr.cell? ⟨wb, wo + x, Option.none⟩ = some (.int .i64 (wz.getD x 0)) := by
        rw [hbel.out.cell (p := ⟨wb, wo + x, Option.none⟩) hwb]; exact hwc x (by show x < wl; omega)
      have okx := HOK.out x hlt
      have hz1 : -1 ≤ wz.getD x 0 := okx.1
      have hz2 : wz.getD x 0 < n := okx.2.1
      obtain ⟨zx, hzx⟩ : ∃ z, z = wz.getD x 0 := ⟨_, rfl⟩
      rw [← hzx] at cw hz1 hz2
      have HZX : Hid (zx = wz.getD x 0) := hzx
      have hxw : decide ((x : Int) < (wl : Int)) = true := by simp; omega
      have hTx := total_mono R x k hx
      clear hzx okx hwc hcR
      go_upto_if 27 with fail
      go_cut [] (fun wx => Aside (∃ f v, Lw ⟨some ⟨wb, wo, Option.none⟩, wl, wcp, wz⟩ R n w (x + 1) x [] 0 (x + 1 + total R x) f v wx))
      case first =>
        by_cases hz0 : 0 ≤ zx
        · obtain ⟨q, rfl⟩ := Int.eq_ofNat_of_zero_le hz0
          have hq : q < n := by omega
          have hz0' : decide ((0 : Int) ≤ (q : Int)) = true := by simp
          have cP := HLw.out.hl.cell true q hq
          have fP := HLw.out.hl.froz true q hq
          simp only [if_true] at cP fP
          have hlt0 := (HLw.out.hl.lo true).2
          simp only [if_true] at hlt0
          have hfl := HLw.out.len true q hq
          have hBB := hbel.out.size
          obtain ⟨g, cap, w2, r1, c1, f1, HN, hb1, hsz, hb2⟩ := HLw.out.hl.push (W1 := (wr.alloc (.cells #[.int .i64 x] 3)).drew) true q hq x wr.heap.size ⟨rfl, rfl, rfl, by simp, fun b hb _ => by exact Below.heap_alloc _ _ _ hb⟩
            (by show (wr.heap.push _)[wr.heap.size]? = _; simp) (by omega) hBB 22
          rw [hz0']
          have hwb2 : wb < wr.heap.size := by omega
          have cw2 : w2.cell? ⟨wb, wo + x, Option.none⟩ = some (.int .i64 (q : Int)) := by
            rw [hb2.cell (p := ⟨wb, wo + x, Option.none⟩) hwb]; exact cw
          simp only [if_true] at c1 f1
          have HNX : Aside (∃ f' v', Lw ⟨some ⟨wb, wo, Option.none⟩, wl, wcp, wz⟩ R n w (x + 1) x [] 0 (x + 1 + total R x) f' v' (w2.setCell (ad w.heap.size q) (.slice (some (ad g 0)) ((f true q).length + 1) cap))) :=
by
            have := HLw.out.pushX q hq HZX.out.symm HN hb1
            simp only [if_true] at this
            exact ⟨_, _, this.turn (x' := x) (zs' := []) (j' := 0) (T' := x + 1 + total R x) (fun u z => Iff.rfl) (by omega)⟩
          have iq1 : (q : Int) < (n : Int) := by omega
          have iq2 : (0 : Int) ≤ (q : Int) := by omega
          have ix1 : (x : Int) < (wl : Int) := by omega
          have ix2 : (0 : Int) ≤ (x : Int) := by omega
          have R1 : Hid ((Builtin.append_ #[22, 22] 22 #[v true q, .slice (some (ad wr.heap.size 0)) 1 1]).run Try.prog (wr.alloc (.cells #[.int .i64 x] 3)).drew = .ok (.slice (some (ad g 0)) ((f true q).length + 1) cap) w2) := r1
          clear hbel HLw hBB HN hb1 hb2 hsz r1
          generalize (f true q).length = FL at *
          go_wp2_with fail
          go_region_law (refine step_append_run rfl _ _ _ rfl _ _ _ (by simp [Act.eval]) (by simp [Act.eval]) R1.out ?_)
          all_goals (go_wp2_with fail; go_meet; exact HNX)
        · have hz0' : decide ((0 : Int) ≤ zx) = false := by simp; omega
          rw [hz0']
          have HNX : Aside (∃ f v, Lw ⟨some ⟨wb, wo, Option.none⟩, wl, wcp, wz⟩ R n w (x + 1) x [] 0 (x + 1 + total R x) f v wr) :=
by
            have := HLw.out.skipX (by show wz.getD x 0 < 0; rw [← HZX.out]; omega)
            exact ⟨_, _, this.turn (x' := x) (zs' := []) (j' := 0) (T' := x + 1 + total R x) (fun u z => Iff.rfl) (by omega)⟩
          go_wp2_with fail
          go_meet
          case rel => exact HNX
      case rest =>
        have HC := hcut
        clear hcut HLw hbel cw HZX hz1 hz2
        obtain ⟨ra, rl, rc, rz, hRx⟩ := row_eta (R x)
        have HRx : Hid (R x = ⟨ra, rl, rc, rz⟩) := hRx
        have hrx := hR.rows x hlt
        rw [hRx] at hrx
        have hrzl : rz.length = rl := hrx.size
        have HRZ : Hid (∀ j, j < rl → 0 ≤ rz.getD j 0 ∧ rz.getD j 0 < n) := by
          have := (HOK.out x hlt).2.2.2
          rw [hRx] at this
          exact this
        have hTx1 : total R (x + 1) = total R x + rl := by simp only [total]; rw [hRx]
        have hTx2 := total_mono R (x + 1) k (by omega)
        have HCj : Aside (∃ f v, Lw ⟨some ⟨wb, wo, Option.none⟩, wl, wcp, wz⟩ R n w (x + 1) x rz 0 (x + 1 + total R x + 0) f v wc) := by
          obtain ⟨f, v, h⟩ := HC.out
          exact ⟨f, v, h.turn (fun u z => inS_start R x u rz z) (Nat.le_refl _)⟩
        clear HC hRx hrx
        go_wp2_with fail
        go_loopg [11, 12] rl (fun gk s11 s12 wx => ∃ j : Nat, s11 = .int .i64 j ∧ j ≤ rl ∧ gk = rl - j ∧ Aside (∃ f v, Lw ⟨some ⟨wb, wo, Option.none⟩, wl, wcp, wz⟩ R n w (x + 1) x rz j (x + 1 + total R x + j) f v wx))
        case atStart => exact ⟨0, rfl, Nat.zero_le _, rfl, HCj⟩
        case round =>
          obtain ⟨j, rfl, hj, hgj, HJ⟩ := hrel
          clear HCj
          obtain ⟨f, v, HL0⟩ := HJ.out
          have HLw : Aside (Lw ⟨some ⟨wb, wo, Option.none⟩, wl, wcp, wz⟩ R n w (x + 1) x rz j (x + 1 + total R x + j) f v wr) := HL0
          have hbel : Hid (Below w.heap.size w wr) := HL0.low
          clear HL0 HJ
          have cR : wr.cell? ⟨b, o + x, Option.none⟩ = some (.slice ra rl rc) := by
            obtain ⟨b', o', hbo, hbl', hcR⟩ := hR.at_ (by omega)
            simp only [Option.some.injEq, Addr.mk.injEq] at hbo
            obtain ⟨rfl, rfl, _⟩ := hbo
            rw [hbel.out.cell (p := ⟨b, o + x, Option.none⟩) hbl, hcR x hlt, HRx.out]
          have ix1 : (x : Int) < (k : Int) := by omega
          have ix2 : (0 : Int) ≤ (x : Int) := by omega
          by_cases hjl : j < rl
          · have hrow : IsRow wr ⟨ra, rl, rc, rz⟩ := by rw [← HRx.out]; exact (hR.rows x hlt).below hbel.out
            obtain ⟨b3, o3, hra, hb3, hc3⟩ := hrow.at_ (by show 0 < rl; omega)
            dsimp only at hra
            subst hra
            have hrb := HRZ.out j hjl
            obtain ⟨r, hr⟩ := Int.eq_ofNat_of_zero_le hrb.1
            have crj : wr.cell? ⟨b3, o3 + j, Option.none⟩ = some (.int .i64 (r : Int)) := by rw [← hr]; exact hc3 j hjl
            have hrn : r < n := by omega
            have HRJ : Hid (rz.getD j 0 = (r : Int)) := hr
            clear hc3 hr hrb hrow
            have cP := HLw.out.hl.cell false r hrn
            have fP := HLw.out.hl.froz false r hrn
            simp only [Bool.false_eq_true, if_false] at cP fP
            have hlt0 := (HLw.out.hl.lo false).2
            simp only [Bool.false_eq_true, if_false] at hlt0
            have hfl := HLw.out.len false r hrn
            have hBB := hbel.out.size
            obtain ⟨g, cap, w2, r1, c1, f1, HN, hb1, hsz, hb2⟩ := HLw.out.hl.push (W1 := wr.alloc (.cells #[.int .i64 x] 3)) false r hrn x wr.heap.size ⟨rfl, rfl, rfl, by simp, fun b hb _ => by exact Below.heap_alloc _ _ _ hb⟩
              (by show (wr.heap.push _)[wr.heap.size]? = _; simp) (by omega) hBB 22
            simp only [Bool.false_eq_true, if_false] at c1 f1
            have HNX : Aside (∃ f' v', Lw ⟨some ⟨wb, wo, Option.none⟩, wl, wcp, wz⟩ R n w (x + 1) x rz (j + 1) (x + 1 + total R x + (j + 1)) f' v' (w2.setCell (ad (w.heap.size + 1) r) (.slice (some (ad g 0)) ((f false r).length + 1) cap))) :=
by
              have := HLw.out.pushS (by omega) r hrn HRJ.out HN hb1
              simp only [Bool.false_eq_true, if_false] at this
              exact ⟨_, _, this.turn (x' := x) (zs' := rz) (j' := j + 1) (T' := x + 1 + total R x + (j + 1)) (fun u z => Iff.rfl) (by omega)⟩
            have ir1 : (r : Int) < (n : Int) := by omega
            have ir2 : (0 : Int) ≤ (r : Int) := by omega
            have R1 : Hid ((Builtin.append_ #[22, 22] 22 #[v false r, .slice (some (ad wr.heap.size 0)) 1 1]).run Try.prog (wr.alloc (.cells #[.int .i64 x] 3)) = .ok (.slice (some (ad g 0)) ((f false r).length + 1) cap) w2) := r1
            clear hbel HLw hBB HN hb1 hb2 hsz r1
            generalize (f false r).length = FL at *
            go_wp2_with (first | (at_builtin; refine wpList_append_run rfl _ _ _ rfl _ _ _ rfl rfl R1.out ?_))
            go_roundg (rl - (j + 1))
            case measure => omega
            case rel => exact ⟨j + 1, by go_num, by omega, rfl, HNX⟩
          · have hje : rz.length ≤ j := by omega
            have HNX : Aside (∃ f v, Lw ⟨some ⟨wb, wo, Option.none⟩, wl, wcp, wz⟩ R n w (x + 1) (x + 1) [] 0 (x + 1 + total R (x + 1)) f v wr) :=
              ⟨_, _, HLw.out.turn (fun u z => inS_next R x u rz j z (by rw [HRx.out]) hje) (by omega)⟩
            clear HLw
            go_wp2_with fail
            go_roundg (k - (x + 1))
            case measure => omega
            case rel => exact ⟨x + 1, by go_num, by omega, rfl, HNX⟩
    · obtain rfl : x = k := by omega
      have hxw : decide ((x : Int) < (wl : Int)) = false := by simp; omega
      go_wp2_with fail
      go_ret2
      exact ⟨rfl, HT.out⟩

end Go.Proofs.Qxb6615850a
