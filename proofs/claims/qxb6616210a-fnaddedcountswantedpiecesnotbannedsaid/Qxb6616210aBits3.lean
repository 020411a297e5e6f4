import Derived.Test.Qxb6616210aBits2
namespace Go.Proofs.Qxb6616210a
open Go.RowKit
set_option linter.unusedVariables false
set_option linter.unusedSimpArgs false
set_option maxRecDepth 100000

theorem BF.setB {B BB FB nb nf n : Nat} {w : World} (h : BF B BB FB nb nf n w) (q : Nat) (u : Int) : BF B BB FB nb nf n (w.setCell ⟨BB, q, Option.none⟩ (.int .u8 u)) := by
  obtain ⟨c, hc⟩ := h.c2
  obtain ⟨n1, n2, n3⟩ := h.ne
  have e : ∀ k, (w.setCell ⟨BB, q, Option.none⟩ (.int .u8 u)).cell? ⟨B, k, Option.none⟩ = w.cell? ⟨B, k, Option.none⟩ := fun k => World.cell?_setCell_other _ _ _ _ (fun e => n1 (congrArg Addr.block e))
  exact ⟨(e 0).trans h.c0, (e 1).trans h.c1, ⟨c, (e 2).trans hc⟩, (e 3).trans h.c3, fun k => by rw [World.frozen?_setCell]; exact h.z k, h.rb.set q u, h.rf.other n3 _, h.ne⟩
theorem BF.setC {B BB FB nb nf n : Nat} {w : World} (h : BF B BB FB nb nf n w) (u : Int) : BF B BB FB nb nf n (w.setCell ⟨B, 2, Option.none⟩ (.int .i64 u)) := by
  obtain ⟨c, hc⟩ := h.c2
  obtain ⟨n1, n2, n3⟩ := h.ne
  have e : ∀ k, k ≠ 2 → (w.setCell ⟨B, 2, Option.none⟩ (.int .i64 u)).cell? ⟨B, k, Option.none⟩ = w.cell? ⟨B, k, Option.none⟩ := fun k hk => World.cell?_setCell_other _ _ _ _ (fun e => hk (congrArg Addr.off e).symm)
  exact ⟨(e 0 (by omega)).trans h.c0, (e 1 (by omega)).trans h.c1, ⟨u, World.cell?_setCell_same _ _ _ hc⟩, (e 3 (by omega)).trans h.c3, fun k => by rw [World.frozen?_setCell]; exact h.z k, h.rb.other (Ne.symm n1) _, h.rf.other (Ne.symm n2) _, h.ne⟩

/-- The bit of piece i is set. -/
def BitOn (BB i : Nat) (w : World) : Prop := ∃ b : Int, w.cell? ⟨BB, i / 8, Option.none⟩ = some (.int .u8 b) ∧ (bits .and .u8 b (maskOf i) != 0) = true

/-- The cells that Set may write: of the struct the count alone. -/
def SetQ (B BB FB : Nat) (p : Addr) : Prop := p = ⟨B, 2, Option.none⟩ ∨ p.block = BB ∨ p.block = FB

set_option maxHeartbeats 2000000 in
theorem set_c (B BB FB nb nf n i : Nat) (hi : i < n) (hn : n ≤ 65536) (hnb : nb = (n + 7) / 8) (hnf : nf = (nb + 63) / 64) (w : World) (h : BF B BB FB nb nf n w) :
    Calls Try.prog 38 #[.pointer (some ⟨B, 0, Option.none⟩), .int .i64 (i : Int)] w fun e w' => e = .returned (.tuple #[]) ∧ BF B BB FB nb nf n w' ∧ BitOn BB i w' ∧ Upd (SetQ B BB FB) w w' := by
  obtain ⟨c, c2⟩ := h.c2
  obtain ⟨q, hqq⟩ : ∃ q, q = i / 8 := ⟨_, rfl⟩
  have hq := tdiv8 i
  have hr := tmod8 i
  obtain ⟨r, hrr⟩ : ∃ r, r = i % 8 := ⟨_, rfl⟩
  rw [← hqq] at hq
  rw [← hrr] at hr
  have hqn : q < nb := by omega
  obtain ⟨b, cq⟩ := h.rb.c q hqn
  have wq : IntKind.i64.wrap (q : Int) = (q : Int) := by rw [IntKind.wrap_i64]; omega
  have i1 : (q : Int) < (nb : Int) := by omega
  have c0 := h.c0; have c1 := h.c1; have c3 := h.c3
  have H0 : Hid (BF B BB FB nb nf n w) := h
  have C43 : Hid (∀ w, Calls Try.prog 43 #[.agg #[.slice (some ⟨BB, 0, Option.none⟩) nb nb, .int .i64 (n : Int), .int .i64 c, .slice (some ⟨FB, 0, Option.none⟩) nf nf], .int .i64 (i : Int)] w fun e w' => e = .returned (.tuple #[]) ∧ Below w.heap.size w w') := fun w => check_c n c i (by omega) (by omega) BB FB nb nf w
  obtain ⟨t, ht⟩ : ∃ t, (bits .and .u8 b (maskOf i) != 0) = t := ⟨_, rfl⟩
  have C37 : Hid (∀ w', w'.cell? ⟨BB, q, Option.none⟩ = some (.int .u8 b) → Calls Try.prog 37 #[.agg #[.slice (some ⟨BB, 0, Option.none⟩) nb nb, .int .i64 (n : Int), .int .i64 c, .slice (some ⟨FB, 0, Option.none⟩) nf nf], .int .i64 (i : Int)] w' fun e w'' => e = .returned (.bool t) ∧ Below w'.heap.size w' w'') :=
    fun w' hc => has_c n c i b t (by omega) (by omega) BB FB nb nf (by omega) w' (by rw [← hqq]; exact hc) ht
  have HT : Hid ((bits .and .u8 b (maskOf i) != 0) = t ∧ q = i / 8 ∧ q / 64 < nf ∧ nb ≤ 65536 ∧ maskOf i = 128 / 2 ^ min r 8) := ⟨ht, hqq, by omega, by omega, by unfold maskOf; rw [hrr]⟩
  clear h hqq hrr ht hnb hnf
  go_enter Try.func38, Try.ntmps38
  go_wp2_with fail
  refine (C43.out _).mono ?_
  rintro e w1 ⟨rfl, hb1⟩
  have d0 := cell_below hb1 c0; have d1 := cell_below hb1 c1; have d2 := cell_below hb1 c2; have d3 := cell_below hb1 c3; have dq := cell_below hb1 cq
  have H1 : Hid (BF B BB FB nb nf n w1 ∧ Below w.heap.size w w1) := ⟨H0.out.below hb1, hb1⟩
  clear hb1 c0 c1 c2 c3 cq H0
  go_wp2_with fail
  refine (C37.out _ dq).mono ?_
  rintro e w2 ⟨rfl, hb2⟩
  have e0 := cell_below hb2 d0; have e2 := cell_below hb2 d2; have eq := cell_below hb2 dq
  have H2 : Hid (BF B BB FB nb nf n w2 ∧ Below w.heap.size w w2) := ⟨H1.out.1.below hb2, H1.out.2.trans (hb2.mono H1.out.2.size)⟩
  clear hb2 d0 d1 d2 d3 dq H1
  cases t
  case true =>
    go_wp2_with fail
    simp [bodyPost, results, Try.results38, go_sem]
    exact ⟨H2.out.1, ⟨b, by rw [← HT.out.2.1]; exact eq, HT.out.1⟩, Upd.of_below H2.out.2⟩
  case false =>
    have zq := H2.out.1.rb.z q
    have z2 := H2.out.1.z 2
    have ne1 : BB ≠ B := H2.out.1.ne.1
    have ne2 : B ≠ BB := Ne.symm ne1
    obtain ⟨u, hu⟩ : ∃ u, bits .or .u8 b (128 / 2 ^ min r 8) = u := ⟨_, rfl⟩
    have HU : Hid ((bits .and .u8 u (maskOf i) != 0) = true) := by
      show (bits .and .u8 u (maskOf i) != 0) = true
      rw [← hu, ← HT.out.2.2.2.2, bits_u8_or_and b (maskOf i) (maskOf_pos i).1 (maskOf_pos i).2]
      have := (maskOf_pos i).1
      rw [bne_iff_ne]; omega
    obtain ⟨c', hc'⟩ : ∃ c', IntKind.i64.wrap (c + 1) = c' := ⟨_, rfl⟩
    go_upto_region 2 with fail
    go_cut [] (fun wx => Aside (BF B BB FB nb nf n wx ∧ wx.cell? ⟨BB, q, Option.none⟩ = some (.int .u8 u) ∧ wx.cell? ⟨B, 2, Option.none⟩ = some (.int .i64 c) ∧ Upd (SetQ B BB FB) w wx))
    case first =>
      go_region
      all_goals (go_wp2_with fail; go_meet)
      case rel =>
        refine ⟨(H2.out.1.setB q u).drew, World.cell?_setCell_same _ _ _ eq, ?_, (Upd.set (Q := SetQ B BB FB) (p := ⟨BB, q, Option.none⟩) (Upd.of_below H2.out.2) (.inr (.inl rfl)) _).drew⟩
        exact (World.cell?_setCell_other _ _ _ _ (fun e => ne1 (congrArg Addr.block e))).trans e2
    case rest =>
      clear e0 e2 eq H2 zq z2
      have f2 := hcut.out.2.2.1
      have z2 := hcut.out.1.z 2
      have H3 : Hid (BF B BB FB nb nf n (wc.setCell ⟨B, 2, Option.none⟩ (.int .i64 c')) ∧ (wc.setCell ⟨B, 2, Option.none⟩ (.int .i64 c')).cell? ⟨BB, q, Option.none⟩ = some (.int .u8 u) ∧ Upd (SetQ B BB FB) w (wc.setCell ⟨B, 2, Option.none⟩ (.int .i64 c'))) :=
        ⟨hcut.out.1.setC c', (World.cell?_setCell_other _ _ _ _ (fun e => ne2 (congrArg Addr.block e))).trans hcut.out.2.1, Upd.set (Q := SetQ B BB FB) (p := ⟨B, 2, Option.none⟩) hcut.out.2.2.2 (.inl rfl) _⟩
      have C44 : Hid (Calls Try.prog 44 #[.pointer (some ⟨B, 0, Option.none⟩), .int .i64 (q : Int)] (wc.setCell ⟨B, 2, Option.none⟩ (.int .i64 c')) fun e w' => e = .returned (.tuple #[]) ∧ BF B BB FB nb nf n w' ∧ Upd (fun p => p.block = FB) (wc.setCell ⟨B, 2, Option.none⟩ (.int .i64 c')) w') := noteFull_c B BB FB nb nf n q hqn HT.out.2.2.1 HT.out.2.2.2.1 _ H3.out.1
      clear hcut
      go_wp2_with fail
      refine C44.out.mono ?_
      rintro e w5 ⟨rfl, h5, hU5⟩
      have HE : Hid (BF B BB FB nb nf n w5 ∧ BitOn BB i w5 ∧ Upd (SetQ B BB FB) w w5) := by
        refine ⟨h5, ⟨u, ?_, HU.out⟩, H3.out.2.2.trans (hU5.mono (fun p hp => .inr (.inr hp)))⟩
        rw [← HT.out.2.1, hU5.cell _ (World.block_lt_of_cell? _ _ H3.out.2.1) (fun e => H3.out.1.ne.2.2 e)]
        exact H3.out.2.1
      clear h5 hU5
      go_wp2_with fail
      simp [bodyPost, results, Try.results38, go_sem]
      exact HE.out

end Go.Proofs.Qxb6616210a
