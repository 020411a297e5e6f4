import Derived.Test.Qxb6616210aAdd2
import Derived.Deep.RegionLaw
import Derived.OwnWalk
namespace Go.Proofs.Qxb6616210a
open Go.RowKit
set_option linter.unusedVariables false
set_option linter.unusedSimpArgs false
set_option maxRecDepth 100000

theorem wp_append_run {P : Program} {w w2 : World} {o : Oper} {a : Act} {K : Act → World → Prop} {Q : Exit → Act → World → Prop} (s x : Operand) (t : TypeId)
    (ho : o.op = .call { callee := .builtin .append, args := #[s, x], argTypes := #[t, t] }) (v v' r : Value) (hs : a.eval s = v) (hx : a.eval x = v')
    (hr : (Builtin.append_ #[t, t] o.type #[v, v']).run P w = .ok r w2) (h : K (a.put o.dst r) w2) : o.wp P a w K Q := by
  unfold Oper.wp execOp
  simp only [ho, resolve, invoke, builtin, Sem.run_bind, Sem.run_pure, Result.andThen_ok, List.map_toArray, List.map_cons, List.map_nil, hs, hx, hr]
  exact h

theorem wpList_append_run {P : Program} {w w2 : World} {ops : Array Oper} {rest : List Oper} {o : Oper} {a : Act} {Q : Exit → Act → World → Prop} (hgd : o.guard = Option.none) (s x : Operand) (t : TypeId)
    (ho : o.op = .call { callee := .builtin .append, args := #[s, x], argTypes := #[t, t] }) (v v' r : Value) (hs : a.eval s = v) (hx : a.eval x = v')
    (hr : (Builtin.append_ #[t, t] o.type #[v, v']).run P w = .ok r w2) (h : wpList P ops Q rest (a.put o.dst r) w2) : wpList P ops Q (o :: rest) a w :=
  wpList_plain hgd fun _ hK => wp_append_run s x t ho v v' r hs hx hr (hK _ _ h)

theorem step_append_run {P : Program} {w w2 : World} {ops : Array Oper} {o : Oper} {a : Act} {K : Act → World → Prop} {Q : Exit → Act → World → Prop} {E : Prop} (hgd : o.guard = Option.none) (s x : Operand) (t : TypeId)
    (ho : o.op = .call { callee := .builtin .append, args := #[s, x], argTypes := #[t, t] }) (v v' r : Value) (hs : a.eval s = v) (hx : a.eval x = v')
    (hr : (Builtin.append_ #[t, t] o.type #[v, v']).run P w = .ok r w2) (h : K (a.put o.dst r) w2) : if Region.wanted o (yielded ops a.tmps) = true then Oper.wp P o a w K Q else E := by
  have hw : Region.wanted o (yielded ops a.tmps) = true := by simp [Region.wanted, hgd]
  rw [if_pos hw]
  exact wp_append_run s x t ho v v' r hs hx hr h

/-- shuffle's contract. -/
def Shuf (RB Q P OB PB GB n i : Nat) : Prop := ∀ (SB L C : Nat) (order pos group start : Nat → Nat) (w : World), L ≤ 65536 → RarH RB Q P OB PB GB SB n L C order pos group start w → Inv0 n L order pos group start →
  Calls Try.prog 42 #[.pointer (some ⟨RB, 0, Option.none⟩), .int .i64 (i : Int)] w fun e w' => e = .returned (.tuple #[]) ∧ ∃ order' pos', RarH RB Q P OB PB GB SB n L C order' pos' group start w' ∧ Inv0 n L order' pos' group start ∧ Upd (RarQ P OB PB GB) w w'

/-- What add leaves. -/
def RetAdd (RB Q P OB PB GB SB n L : Nat) (group : Nat → Nat) (i : Nat) (w w' : World) : Prop :=
  ∃ SB' L' C' order' pos' start', RarH RB Q P OB PB GB SB' n L' C' order' pos' (upd group i (group i + 1)) start' w' ∧ Inv0 n L' order' pos' (upd group i (group i + 1)) start' ∧ (L' = if group i + 2 = L then L + 1 else L) ∧ Upd (RarQ' RB P OB PB GB SB) w w' ∧ (SB' = SB ∨ w.heap.size ≤ SB')

set_option maxHeartbeats 4000000 in
theorem add_w (RB Q P OB PB GB SB n L C : Nat) (order pos group start : Nat → Nat) (i : Nat) (hi : i < n) (hn : n ≤ 65536) (hL : L < 65536) (w : World) (h : RarH RB Q P OB PB GB SB n L C order pos group start w) (hI : Inv0 n L order pos group start) (C42 : Hid (Shuf RB Q P OB PB GB n i)) :
    Calls Try.prog 34 #[.pointer (some ⟨RB, 0, Option.none⟩), .int .i64 (i : Int)] w fun e w' => e = .returned (.tuple #[]) ∧ RetAdd RB Q P OB PB GB SB n L group i w w' := by
  obtain ⟨g, hg⟩ : ∃ g, group i = g := ⟨_, rfl⟩
  have hgg := hI.g i hi
  rw [hg] at hgg
  have HI : Hid (Inv0 n L order pos group start ∧ group i = g ∧ 1 ≤ g ∧ g + 2 ≤ L) := ⟨hI, hg, hgg⟩
  have H0 : Hid (RarH RB Q P OB PB GB SB n L C order pos group start w) := h
  have cg := h.r.g; have gi := h.r.rg.c i hi; rw [hg] at gi
  have c4 := h.r.s; have c1 := h.r.o; have z4 := h.r.zs
  have i1 : (i : Int) < (n : Int) := by omega
  have kg : ((g : Int) == 0) = false := by rw [beq_eq_false_iff_ne]; omega
  obtain ⟨g2, hg2⟩ : ∃ g2 : Nat, IntKind.i64.wrap ((g : Int) + 2) = (g2 : Int) := ⟨g + 2, by rw [IntKind.wrap_i64]; omega⟩
  have hg2' : g2 = g + 2 := by rw [IntKind.wrap_i64] at hg2; omega
  have HG2 : Hid (g2 = g + 2) := hg2'
  clear h hI hg hgg
  go_enter Try.func34, Try.ntmps34
  go_upto_if 21 with fail
  go_cut [] (fun wx => ∃ SB' L' C' start', Aside (RarH RB Q P OB PB GB SB' n L' C' order pos group start' wx ∧ Inv0 n L' order pos group start' ∧ (L' = if g + 2 = L then L + 1 else L) ∧ Upd (RarQ' RB P OB PB GB SB) w wx ∧ (SB' = SB ∨ w.heap.size ≤ SB')))
  case first =>
    by_cases hgL : g2 = L
    · have kL : ((g2 : Int) == (L : Int)) = true := by rw [beq_iff_eq]; omega
      obtain ⟨sg, cap, w1, hap, hr1, ho1, hs1, hgr1⟩ := append_start H0.out (by omega) 0 (Nat.zero_le _) 23
      obtain ⟨hR, hU⟩ := H0.out.grown hr1 ho1 hs1 hgr1
      have HE : Hid (RarH RB Q P OB PB GB sg n (L + 1) cap order pos group (upd start L n) (w1.setCell ⟨RB, 4, Option.none⟩ (.slice (some ⟨sg, 0, Option.none⟩) (L + 1) cap)) ∧ Upd (RarQ' RB P OB PB GB SB) w (w1.setCell ⟨RB, 4, Option.none⟩ (.slice (some ⟨sg, 0, Option.none⟩) (L + 1) cap)) ∧ (sg = SB ∨ w.heap.size ≤ sg)) := ⟨hR, hU, hs1⟩
      have m10 := H0.out.r.ne.2.2.2.2.2.2.2.2.2
      have lR : RB < w.heap.size := World.block_lt_of_cell? w _ H0.out.r.q
      have d4 : w1.cell? ⟨RB, 4, Option.none⟩ = some (.slice (some ⟨SB, 0, Option.none⟩) L C) := (hgr1.cell c4 (by simpa using Ne.symm m10))
      have f4 : w1.frozen? ⟨RB, 4, Option.none⟩ = false := (World.frozen?_of_block (hgr1.block RB lR (by simpa using Ne.symm m10))).trans z4
      have ne1 : w.heap.size ≠ RB := by omega
      have x4 : ∀ o, (w.alloc o).cell? ⟨RB, 4, Option.none⟩ = some (.slice (some ⟨SB, 0, Option.none⟩) L C) := fun o => cell_below ((Below.refl _ _).alloc (Nat.le_refl _) o) c4
      have x1 : ∀ o, (w.alloc o).cell? ⟨RB, 1, Option.none⟩ = some (.slice (some ⟨OB, 0, Option.none⟩) n n) := fun o => cell_below ((Below.refl _ _).alloc (Nat.le_refl _) o) c1
      have d1 : w1.cell? ⟨RB, 1, Option.none⟩ = some (.slice (some ⟨OB, 0, Option.none⟩) n n) := (hgr1.cell c1 (by simpa using Ne.symm m10))
      have R1 : Hid ((Builtin.append_ #[23, 23] 23 #[.slice (some ⟨SB, 0, Option.none⟩) L C, .slice (some ⟨w.heap.size, 0, Option.none⟩) 1 1]).run Try.prog ((w.alloc (.cells #[.int .i64 (n : Int)] 3)).drew) = .ok (.slice (some ⟨sg, 0, Option.none⟩) (L + 1) cap) w1) := hap
      have hgL' : g + 2 = L := by have := HG2.out; omega
      have HR : Hid (∃ SB' L' C' start', Aside (RarH RB Q P OB PB GB SB' n L' C' order pos group start' (w1.setCell ⟨RB, 4, Option.none⟩ (.slice (some ⟨sg, 0, Option.none⟩) (L + 1) cap)) ∧ Inv0 n L' order pos group start' ∧ (L' = if g + 2 = L then L + 1 else L) ∧ Upd (RarQ' RB P OB PB GB SB) w (w1.setCell ⟨RB, 4, Option.none⟩ (.slice (some ⟨sg, 0, Option.none⟩) (L + 1) cap)) ∧ (SB' = SB ∨ w.heap.size ≤ SB'))) :=
        ⟨sg, L + 1, cap, upd start L n, HE.out.1, HI.out.1.grow, by rw [if_pos hgL'], HE.out.2.1, HE.out.2.2⟩
      clear hR hU hr1 ho1 hs1 hgr1 m10 lR hap HE hgL hgL'
      go_wp2_with fail
      go_region_law (refine step_append_run rfl _ _ _ rfl _ _ _ (by simp [Act.eval]) (by simp [Act.eval]) R1.out ?_)
      all_goals (go_wp2_with fail; go_meet)
      all_goals exact HR.out
    · have kL : ((g2 : Int) == (L : Int)) = false := by rw [beq_eq_false_iff_ne]; omega
      have hne : ¬ g + 2 = L := by have := HG2.out; omega
      go_wp2_with fail
      go_meet
      case rel => exact ⟨SB, L, C, start, H0.out, HI.out.1, by rw [if_neg hne], Upd.refl _ _, .inl rfl⟩
  case rest =>
    obtain ⟨SB', L', C', start', HC⟩ := hcut
    clear cg gi c4 c1 z4 H0
    obtain ⟨px, hpx⟩ : ∃ px, pos i = px := ⟨_, rfl⟩
    obtain ⟨b, hb⟩ : ∃ b, start' (g + 1) = b := ⟨_, rfl⟩
    have hg := HI.out.2.1
    have hI := HC.out.2.1
    have hia := hI.a i hi
    have hip := hI.p i hi
    rw [hg, hpx, hb] at hia
    rw [hpx] at hip
    have hL' : g + 3 ≤ L' ∧ L' ≤ 65536 := by
      have h1 := HC.out.2.2.1
      have h2 := HI.out.2.2
      by_cases e : g + 2 = L
      · rw [if_pos e] at h1; omega
      · rw [if_neg e] at h1; omega
    have hbn : b ≤ n := by rw [← hb, hI.s (g + 1) (by omega)]; exact cntLt_le _ _ _
    obtain ⟨g1, hg1⟩ : ∃ g1 : Nat, IntKind.i64.wrap ((g : Int) + 1) = (g1 : Int) := ⟨g + 1, by rw [IntKind.wrap_i64]; omega⟩
    have hg1' : g1 = g + 1 := by rw [IntKind.wrap_i64] at hg1; omega
    obtain ⟨y, hy⟩ : ∃ y : Nat, IntKind.i64.wrap ((b : Int) - 1) = (y : Int) := ⟨b - 1, by rw [IntKind.wrap_i64]; omega⟩
    have hy' : y + 1 = b := by rw [IntKind.wrap_i64] at hy; omega
    have c2 := HC.out.1.r.p; have c4 := HC.out.1.r.s
    have pi := HC.out.1.r.rp.c i hi; rw [hpx] at pi
    have sb := HC.out.1.r.rs.c (g + 1) (by omega); rw [hb, ← hg1'] at sb
    have i2 : (g1 : Int) < (L' : Int) := by omega
    have C41 : Hid (∀ w', RarH RB Q P OB PB GB SB' n L' C' order pos group start' w' → Calls Try.prog 41 #[.pointer (some ⟨RB, 0, Option.none⟩), .int .i64 (px : Int), .int .i64 (y : Int)] w' fun e w'' => e = .returned (.tuple #[]) ∧ (∃ order1 pos1, RarH RB Q P OB PB GB SB' n L' C' order1 pos1 group start' w'' ∧ Inv0 n L' order1 pos1 group start' ∧ pos1 i + 1 = start' (g + 1)) ∧ Upd (RarQ P OB PB GB) w' w'') := by
      intro w' hh
      refine (hh.swap px y (by omega) (by omega) hn (hI.o px (by omega)).1 (hI.o y (by omega)).1 (fun e => by rw [← (hI.o px (by omega)).2, ← (hI.o y (by omega)).2, e])).mono ?_
      rintro e w'' ⟨rfl, h3, h4⟩
      refine ⟨rfl, ⟨_, _, h3, hI.swap (g := g) (by rw [hb]; exact hia) (by rw [hb]; omega) (by omega) (by omega) (by omega), ?_⟩, h4⟩
      rw [hb]
      by_cases e1 : i = order y
      · have e2 : y = px := by rw [← hpx, e1]; exact (hI.o y (by omega)).2.symm
        rw [← e1, upd_same]; omega
      · rw [upd_other _ _ _ e1, hip.2, upd_same]; omega
    have HX : Hid (g1 = g + 1 ∧ y + 1 = b ∧ start' (g + 1) = b ∧ group i = g ∧ g + 3 ≤ L' ∧ L' ≤ 65536) := ⟨hg1', hy', hb, hg, hL'.1, hL'.2⟩
    have hD := HC.out.1.drew
    clear hia hip hpx hb hg hI hbn hg1' hy' hL'
    go_upto_region 4 with fail
    go_cut [] (fun wx => Aside ((∃ order1 pos1, RarH RB Q P OB PB GB SB' n L' C' order1 pos1 group start' wx ∧ Inv0 n L' order1 pos1 group start' ∧ pos1 i + 1 = start' (g + 1)) ∧ Upd (RarQ' RB P OB PB GB SB) w wx))
    case first =>
      go_region_with (first | (go_at_call 41; refine (C41.out _ (by assumption)).mono ?_; rintro e w5 ⟨rfl, hS5, hU5⟩))
      all_goals (go_wp2_with fail; go_meet)
      all_goals exact ⟨hS5, HC.out.2.2.2.1.drew.trans (hU5.mono (by rintro p (e | e | e | e); exact .inr (.inl e); exact .inr (.inr (.inl e)); exact .inr (.inr (.inr (.inl e))); exact .inr (.inr (.inr (.inr (.inl e))))))⟩
    case rest =>
      clear c2 c4 pi sb hD C41
      obtain ⟨⟨order1, pos1, hR, hI1, hp1⟩, hU1⟩ := hcut.out
      have c4 := hR.r.s; have c3 := hR.r.g
      have sb := hR.r.rs.c (g + 1) (by have := HX.out; omega)
      rw [HX.out.2.2.1, ← HX.out.1] at sb
      have zb := hR.r.rs.z g1
      have gi := hR.r.rg.c i hi; have zi := hR.r.rg.z i
      rw [HX.out.2.2.2.1] at gi
      have ne1 : SB' ≠ RB := hR.r.ne.2.2.2.2.2.2.2.2.2
      have ne2 : GB ≠ SB' := hR.r.ne.2.2.2.2.2.1
      have ne3 : RB ≠ SB' := Ne.symm ne1
      have ne4 : SB' ≠ GB := Ne.symm ne2
      have h3 : RarH RB Q P OB PB GB SB' n L' C' order1 pos1 (upd group i g1) (upd start' g1 y) ((wc.setCell ⟨SB', g1, Option.none⟩ (.int .i64 (y : Int))).setCell ⟨GB, i, Option.none⟩ (.int .i64 (g1 : Int))) := (hR.setS (x := g1) (by have := HX.out; omega) y).setG hi g1
      have hI3 : Inv0 n L' order1 pos1 (upd group i g1) (upd start' g1 y) := by
        have h4 := hI1.up hi (by rw [HX.out.2.2.2.1]; exact HX.out.2.2.2.2.1) (by rw [HX.out.2.2.2.1]; exact hp1)
        rw [HX.out.2.2.2.1, HX.out.2.2.1] at h4
        rw [HX.out.1, show y = b - 1 from by have := HX.out.2.1; omega]
        exact h4
      have C42' : Hid (Calls Try.prog 42 #[.pointer (some ⟨RB, 0, Option.none⟩), .int .i64 (i : Int)] ((wc.setCell ⟨SB', g1, Option.none⟩ (.int .i64 (y : Int))).setCell ⟨GB, i, Option.none⟩ (.int .i64 (g1 : Int))) fun e w' => e = .returned (.tuple #[]) ∧ RetAdd RB Q P OB PB GB SB n L group i w w') := by
        refine (C42.out SB' L' C' order1 pos1 _ _ _ HX.out.2.2.2.2.2 h3 hI3).mono ?_
        rintro e w' ⟨rfl, order', pos', h5, h6, h7⟩
        refine ⟨rfl, SB', L', C', order', pos', upd start' g1 y, ?_, ?_, ?_, ?_, HC.out.2.2.2.2⟩
        · rw [HX.out.2.2.2.1, ← HX.out.1]; exact h5
        · rw [HX.out.2.2.2.1, ← HX.out.1]; exact h6
        · rw [HX.out.2.2.2.1]; exact HC.out.2.2.1
        · have hq : ∀ p, RarQ P OB PB GB p → RarQ' RB P OB PB GB SB p := by rintro p (e | e | e | e); exact .inr (.inl e); exact .inr (.inr (.inl e)); exact .inr (.inr (.inr (.inl e))); exact .inr (.inr (.inr (.inr (.inl e))))
          refine Upd.trans ?_ (h7.mono hq)
          refine Upd.set (p := ⟨GB, i, Option.none⟩) ?_ (.inr (.inr (.inr (.inr (.inl rfl))))) _
          rcases HC.out.2.2.2.2 with e | e
          · exact Upd.set (p := ⟨SB', g1, Option.none⟩) hU1 (.inr (.inr (.inr (.inr (.inr e))))) _
          · exact Upd.setNew (p := ⟨SB', g1, Option.none⟩) hU1 e _
      clear h3 hI3 hR hI1 hp1 hU1
      have i4 : (g1 : Int) < (L' : Int) := by have := HX.out; omega
      go_wp2_with fail
      refine C42'.out.mono ?_
      rintro e w6 ⟨rfl, h6⟩
      have H6 : Hid (RetAdd RB Q P OB PB GB SB n L group i w w6) := h6
      clear h6
      go_wp2_with fail
      simp [bodyPost, results, Try.results34, go_sem]
      exact H6.out

end Go.Proofs.Qxb6616210a
