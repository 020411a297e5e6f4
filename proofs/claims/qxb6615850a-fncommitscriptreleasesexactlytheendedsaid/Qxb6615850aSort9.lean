import Derived.Test.Qxb6615850aSort8
import Derived.Test.Qxb6615850aShelf
namespace Go.Proofs.Qxb6615850a
open Go.RowKit
set_option linter.unusedVariables false

/-- The next power of two above n. -/
theorem npot_bounds (n : Nat) (h : 1 ≤ n) : n < 1 <<< Sort.bitsLen n ∧ 1 <<< Sort.bitsLen n ≤ 2 * n := by
  have hn : n ≠ 0 := by omega
  unfold Sort.bitsLen
  rw [if_neg hn, Nat.one_shiftLeft]
  have h1 := Nat.log2_self_le hn
  have h2 : n < 2 ^ (n.log2 + 1) := (Nat.log2_lt hn).1 (Nat.lt_succ_self _)
  have h3 : 2 ^ (n.log2 + 1) = 2 * 2 ^ n.log2 := by rw [Nat.pow_succ]; omega
  omega

theorem Perms.setNew {g E : Nat} {Env : World → Prop} {rv : Value} {ok : Int → Prop} {W w' : World} {d d' : List Int} (h : Perms g Env W d w' d') (C : Cmp g E rv ok Env) (hW : E ≤ W.heap.size) (v : Value) :
    Perms g Env W d (w'.setCell ⟨W.heap.size, 0, Option.none⟩ v) d' where
  perm := h.perm
  row := h.row.kept (grownBy_setCell_at w' W.heap.size 0 v) (by have := C.old; simp; omega)
  env := C.keep _ _ W.heap.size h.env (grownBy_setCell_at _ _ _ _) (Or.inr hW)
  grown := ⟨h.grown.os, h.grown.tape, h.grown.output, by simpa using h.grown.size, fun k hk hr => (Below.heap_setCell w' ⟨W.heap.size, 0, Option.none⟩ v k (by simp; omega)).trans (h.grown.block k hk hr)⟩

/-- The generator's cell, in a block of the call's own. -/
structure Rnd (w : World) (rb : Nat) : Prop where
  cell : ∃ X : Nat, X < 18446744073709551616 ∧ w.cell? ⟨rb, 0, Option.none⟩ = some (.int .u64 X)
  froz : w.frozen? ⟨rb, 0, Option.none⟩ = false
  lt : rb < w.heap.size

theorem Rnd.kept {w w' : World} {rb : Nat} {row : Option Nat} (h : Rnd w rb) (hg : w.grownBy w' row) (hne : some rb ≠ row) : Rnd w' rb where
  cell := by obtain ⟨X, hX, hc⟩ := h.cell; exact ⟨X, hX, hg.cell hc hne⟩
  froz := (World.frozen?_of_block (a := ⟨rb, 0, Option.none⟩) (hg.block rb h.lt hne)).trans h.froz
  lt := Nat.lt_of_lt_of_le h.lt hg.size

theorem Rnd.next {w : World} {rb : Nat} (h : Rnd w rb) : ∃ R : Nat, R < 18446744073709551616 ∧
    (Calls Try.prog 46 #[.pointer (some ⟨rb, 0, Option.none⟩)] w fun e w' => e = .returned (.int .u64 (R : Int)) ∧ w' = (w.setCell ⟨rb, 0, Option.none⟩ (.int .u64 (R : Int))).drewN 3) ∧ Rnd ((w.setCell ⟨rb, 0, Option.none⟩ (.int .u64 (R : Int))).drewN 3) rb := by
  obtain ⟨X, hX, hc⟩ := h.cell
  refine ⟨Sort.xorNextN X, Sort.xorNextN_lt X hX, AnyF.xorshift_Next Try.xorn rb 0 X hX w hc h.froz, ⟨⟨_, Sort.xorNextN_lt X hX, ?_⟩, ?_, ?_⟩⟩
  · rw [World.cell?_drewN]; exact World.cell?_setCell_same _ _ _ hc
  · rw [World.frozen?_drewN, World.frozen?_setCell]; exact h.froz
  · have := h.lt; simpa [World.drewN] using this

set_option maxRecDepth 100000 in
set_option maxHeartbeats 4000000 in
theorem breakPatterns (g E cap a b : Nat) (d : List Int) (rv : Value) (ok : Int → Prop) (Env : World → Prop) (C : Cmp g E rv ok Env) (W : World) (hr : Rowz W g d) (he : Env W)
    (hab : a + 12 < b) (hb : b ≤ d.length) (hN : d.length ≤ 1000000) :
    Calls Try.prog 36 #[.slice (some ⟨g, 0, Option.none⟩) d.length cap, .int .i64 a, .int .i64 b, .func (.func 27) #[rv] #[]] W fun e w' => e = .returned (.tuple #[]) ∧ ∃ d', Perms g Env W d w' d' := by
  have hlow := C.low W he
  have HP0 : Aside (∃ d', Perms g Env W d W d') := ⟨d, .start hr he⟩
  clear hr he
  have hnp : ∀ w, Calls Try.prog 45 #[.int .i64 ((b : Int) - (a : Int))] w fun e w' => e = .returned (.int .u64 ((1 <<< Sort.bitsLen (b - a) : Nat) : Int)) ∧ w' = w := fun w => by
    have := AnyF.nextPowerOfTwo Try.npot (b - a) (by omega) w
    rw [show (((b - a : Nat)) : Int) = (b : Int) - (a : Int) from by omega] at this
    exact this
  obtain ⟨hM1, hM2⟩ := npot_bounds (b - a) (by omega)
  generalize 1 <<< Sort.bitsLen (b - a) = M at *
  have HNP : Hid (∀ w, Calls Try.prog 45 #[.int .i64 ((b : Int) - (a : Int))] w fun e w' => e = .returned (.int .u64 (M : Int)) ∧ w' = w) := hnp
  clear hnp
  go_enter Try.func36, Try.ntmps36
  go_wp2_with fail
  refine (HNP.out _).mono ?_
  rintro e w1 ⟨rfl, rfl⟩
  --LOOP
  have hge := C.old
  have HR0 : Aside (Rnd (W.alloc (.cells #[.int .u64 ((b : Int) - (a : Int))] 115)) W.heap.size) := by
    refine ⟨⟨b - a, by omega, ?_⟩, ?_, by simp⟩
    · rw [show (((b - a : Nat)) : Int) = (b : Int) - (a : Int) from by omega]; simp [go_sem]
    · simp [go_sem]
  have HPA : Aside (∃ d', Perms g Env W d (W.alloc (.cells #[.int .u64 ((b : Int) - (a : Int))] 115)) d') := by
    obtain ⟨d1, h1⟩ := HP0.out
    exact ⟨d1, h1.grow C (World.grownBy_alloc _ _ _)⟩
  go_wp2_with fail
  go_loopg [11] (a + (b - a) / 4 * 2 + 2 - (a + (b - a) / 4 * 2 - 1)) (fun gk s wx => ∃ i : Nat, s = .int .i64 i ∧ a ≤ i ∧ i ≤ a + (b - a) / 4 * 2 + 2 ∧ gk = a + (b - a) / 4 * 2 + 2 - i ∧ Aside (Rnd wx W.heap.size) ∧ Aside (∃ d', Perms g Env W d wx d'))
  case atStart => exact ⟨a + (b - a) / 4 * 2 - 1, by go_num, by omega, by omega, rfl, HR0, HPA⟩
  case round =>
    clear HP0 HR0 HPA
    obtain ⟨i, rfl, hi1, hi2, hgk, HR, HP⟩ := hrel
    by_cases hle : i ≤ a + (b - a) / 4 * 2 + 1
    · obtain ⟨R, hR, hnext, hrnd⟩ := HR.out.next
      obtain ⟨O, hO⟩ : ∃ O : Nat, O = R &&& (M - 1) := ⟨_, rfl⟩
      have lO : O ≤ M - 1 := by rw [hO]; exact Nat.and_le_right
      have eAnd : bits .and .u64 (R : Int) ((M : Int) - 1) = (O : Int) := by
        rw [show ((M : Int) - 1) = ((M - 1 : Nat) : Int) by omega, bits_and_u64_nat _ _ hR (by omega), hO]
      have HNX : Hid (Calls Try.prog 46 #[.pointer (some ⟨W.heap.size, 0, Option.none⟩)] wr fun e w' => e = .returned (.int .u64 (R : Int)) ∧ w' = (wr.setCell ⟨W.heap.size, 0, Option.none⟩ (.int .u64 (R : Int))).drewN 3) := hnext
      have HR2 : Aside (Rnd ((wr.setCell ⟨W.heap.size, 0, Option.none⟩ (.int .u64 (R : Int))).drewN 3) W.heap.size) := hrnd
      have HPS : Aside (∃ d', Perms g Env W d ((wr.setCell ⟨W.heap.size, 0, Option.none⟩ (.int .u64 (R : Int))).drewN 3) d') := by
        obtain ⟨d1, h1⟩ := HP.out
        exact ⟨d1, (h1.setNew C hlow _).drewN C 3⟩
      clear hO hnext hrnd HP HR
      have hle' : (i : Int) ≤ (a : Int) + ((b : Int) - (a : Int)) / 4 * 2 + 1 := by omega
      generalize hwq : (wr.setCell ⟨W.heap.size, 0, Option.none⟩ (.int .u64 (R : Int))).drewN 3 = wq at *
      have HWQ : Hid ((wr.setCell ⟨W.heap.size, 0, Option.none⟩ (.int .u64 (R : Int))).drewN 3 = wq) := hwq
      clear hwq
      by_cases hOl : b - a ≤ O
      · obtain ⟨O2, hO2⟩ : ∃ x, O = (b - a) + x := ⟨O - (b - a), by omega⟩
        have HO2 : Hid (O = (b - a) + O2) := hO2
        have lO2 : O2 < b - a := by omega
        have hO3 : (O : Int) - ((b : Int) - (a : Int)) = (O2 : Int) := by omega
        clear hO2
        go_wp2_with fail
        refine HNX.out.mono ?_
        rintro e w2 ⟨rfl, rfl⟩
        obtain ⟨d5, hp5⟩ := HPS.out
        have hl5 := hp5.len
        have e1 := hp5.row.cell i (by omega)
        have e2 := hp5.row.cell (a + O2) (by omega)
        have f1 := hp5.row.froz i (by omega)
        have f2 := hp5.row.froz (a + O2) (by omega)
        have HP5 : Aside (Perms g Env W d w2 d5) := hp5
        generalize hy1 : d5.getD i 0 = y1 at *
        generalize hy2 : d5.getD (a + O2) 0 = y2 at *
        have HY1 : Hid (d5.getD i 0 = y1) := hy1
        have HY2 : Hid (d5.getD (a + O2) 0 = y2) := hy2
        obtain ⟨v5, c5⟩ := cell_kept (p := ⟨g, i, Option.none⟩) (x := .int .i64 y2) e2
        clear hy1 hy2 hp5 HPS
        go_wp2_with fail
        go_region
        all_goals
          have HPT : Aside (∃ d', Perms g Env W d _ d') := (let ⟨d6, h6⟩ := HP5.out.swapX C i (a + O2) (by omega) (by omega) HY1 HY2; ⟨d6, h6.drew C⟩)
          have HRT : Aside (Rnd ((w2.setCell ⟨g, i, Option.none⟩ (.int .i64 y2)).setCell ⟨g, (a + O2), Option.none⟩ (.int .i64 y1)).drew W.heap.size) :=
            ((HR2.out.kept (grownBy_setCell_at _ g i _) (by simp; omega)).kept (grownBy_setCell_at _ g (a + O2) _) (by simp; omega)).kept (row := Option.none) ⟨rfl, rfl, rfl, Nat.le_refl _, fun _ _ _ => rfl⟩ (by simp)
          clear e1 e2 f1 f2 c5 HP5 HY1 HY2 HR2
          go_wp2_with fail
          go_roundg (a + (b - a) / 4 * 2 + 2 - (i + 1))
          case measure => omega
          case rel => exact ⟨i + 1, by go_num, by omega, by omega, rfl, HRT, HPT⟩
      · go_wp2_with fail
        refine HNX.out.mono ?_
        rintro e w2 ⟨rfl, rfl⟩
        obtain ⟨d5, hp5⟩ := HPS.out
        have hl5 := hp5.len
        have e1 := hp5.row.cell i (by omega)
        have e2 := hp5.row.cell (a + O) (by omega)
        have f1 := hp5.row.froz i (by omega)
        have f2 := hp5.row.froz (a + O) (by omega)
        have HP5 : Aside (Perms g Env W d w2 d5) := hp5
        generalize hy1 : d5.getD i 0 = y1 at *
        generalize hy2 : d5.getD (a + O) 0 = y2 at *
        have HY1 : Hid (d5.getD i 0 = y1) := hy1
        have HY2 : Hid (d5.getD (a + O) 0 = y2) := hy2
        obtain ⟨v5, c5⟩ := cell_kept (p := ⟨g, i, Option.none⟩) (x := .int .i64 y2) e2
        clear hy1 hy2 hp5 HPS
        go_wp2_with fail
        go_region
        all_goals
          have HPT : Aside (∃ d', Perms g Env W d _ d') := (let ⟨d6, h6⟩ := HP5.out.swapX C i (a + O) (by omega) (by omega) HY1 HY2; ⟨d6, h6.drew C⟩)
          have HRT : Aside (Rnd ((w2.setCell ⟨g, i, Option.none⟩ (.int .i64 y2)).setCell ⟨g, (a + O), Option.none⟩ (.int .i64 y1)).drew W.heap.size) :=
            ((HR2.out.kept (grownBy_setCell_at _ g i _) (by simp; omega)).kept (grownBy_setCell_at _ g (a + O) _) (by simp; omega)).kept (row := Option.none) ⟨rfl, rfl, rfl, Nat.le_refl _, fun _ _ _ => rfl⟩ (by simp)
          clear e1 e2 f1 f2 c5 HP5 HY1 HY2 HR2
          go_wp2_with fail
          go_roundg (a + (b - a) / 4 * 2 + 2 - (i + 1))
          case measure => omega
          case rel => exact ⟨i + 1, by go_num, by omega, by omega, rfl, HRT, HPT⟩
    · go_wp2_with fail
      go_end0
      exact ⟨rfl, HP.out⟩

end Go.Proofs.Qxb6615850a
