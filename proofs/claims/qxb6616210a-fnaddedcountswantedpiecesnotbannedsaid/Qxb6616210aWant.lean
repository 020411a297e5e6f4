import Derived.Test.Qxb6616210aPick
import Derived.Test.Qxb6616210aAdd4
namespace Go.Proofs.Qxb6616210a
open Go.RowKit
set_option linter.unusedVariables false
set_option linter.unusedSimpArgs false
set_option maxRecDepth 100000

set_option maxHeartbeats 2000000 in
theorem wants_c (K HB HF RB B BB FB nb nf n M nn x i : Nat) (b : Nat → Bool) (hi : i < n) (hn : n ≤ 65536) (hnb : nb = (n + 7) / 8) (w : World) (hk : PickAt K HB HF nb nf n RB w) (hp : PeerAt B BB FB nb nf n M x w) (ho : BitOn BB i w) (hm : BanM M nn n b w) :
    Calls Try.prog 45 #[.pointer (some ⟨K, 0, Option.none⟩), .pointer (some ⟨B, 0, Option.none⟩), .int .i64 (i : Int)] w fun e w' => e = .returned (.bool (!b i)) ∧ Below w.heap.size w w' := by
  obtain ⟨c, c2⟩ := hp.bf.c2
  obtain ⟨y, hy1, hy2⟩ := ho
  have c0 := hp.bf.c0; have c1 := hp.bf.c1; have c3 := hp.bf.c3
  have C1 : Hid (∀ w', Below w.heap.size w w' → Calls Try.prog 37 #[.agg #[.slice (some ⟨BB, 0, Option.none⟩) nb nb, .int .i64 (n : Int), .int .i64 c, .slice (some ⟨FB, 0, Option.none⟩) nf nf], .int .i64 (i : Int)] w' fun e w'' => e = .returned (.bool true) ∧ Below w'.heap.size w' w'') :=
    fun w' hb => has_c n c i y true (by omega) (by omega) BB FB nb nf (by omega) w' (cell_below hb hy1) hy2
  have C2 : Hid (∀ w', Below w.heap.size w w' → Calls Try.prog 37 #[.agg #[.slice (some ⟨HB, 0, Option.none⟩) nb nb, .int .i64 (n : Int), .int .i64 0, .slice (some ⟨HF, 0, Option.none⟩) nf nf], .int .i64 (i : Int)] w' fun e w'' => e = .returned (.bool false) ∧ Below w'.heap.size w' w'') :=
    fun w' hb => has_c n 0 i 0 false (by omega) (by omega) HB HF nb nf (by omega) w' (cell_below hb (hk.zb (i / 8) (by omega))) (by rw [bits_u8_zero]; rfl)
  obtain ⟨t, ht⟩ : ∃ t, t = b i := ⟨_, rfl⟩
  rw [← ht]
  have LK : Hid (∀ w', Below w.heap.size w w' → (Instr.lookup 38 (.map (some M)) (.int .i64 (i : Int)) false).run Try.prog w' = .ok (.bool t) w') := fun w' hb => by rw [ht]; exact (hm.below hb).look hn hi
  have HK : Hid (PickAt K HB HF nb nf n RB w) := hk
  have HP : Hid (PeerAt B BB FB nb nf n M x w) := hp
  clear hk hp hy1 hy2 hm ht hnb
  go_enter Try.func45, Try.ntmps45
  go_wp2_with fail
  refine (C1.out _ (Below.refl _ _)).mono ?_
  rintro e w1 ⟨rfl, hb1⟩
  have k4 := cell_below hb1 HK.out.c4; have k5 := cell_below hb1 HK.out.c5; have k6 := cell_below hb1 HK.out.c6; have k7 := cell_below hb1 HK.out.c7
  have B1 : Hid (Below w.heap.size w w1) := hb1
  clear hb1 c0 c1 c2 c3
  go_wp2_with fail
  refine (C2.out _ B1.out).mono ?_
  rintro e w2 ⟨rfl, hb2⟩
  have B2 : Hid (Below w.heap.size w w2) := B1.out.trans (hb2.mono B1.out.size)
  have d4 := cell_below B2.out HP.out.c4
  have lk := LK.out _ B2.out
  clear k4 k5 k6 k7 hb2
  go_wp2_with fail
  go_ret
  exact ⟨rfl, B2.out⟩

theorem RarH.upd {R : Addr → Prop} {RB Q P OB PB GB SB n L C : Nat} {order pos group start : Nat → Nat} {w w' : World} (h : RarH RB Q P OB PB GB SB n L C order pos group start w) (hu : Upd R w w') (hR : ∀ p, R p → Off P RB OB PB GB SB Q p.block) : RarH RB Q P OB PB GB SB n L C order pos group start w' := by
  obtain ⟨y, hy⟩ := h.y
  refine ⟨h.r.upd hu (fun p hp => ?_), ?_, ⟨y, hy.upd hu (fun p hp => (hR p hp).1)⟩, h.ne⟩
  · obtain ⟨a1, a2, a3, a4, a5, a6, a7⟩ := hR p hp
    exact ⟨a2, a3, a4, a5, a6⟩
  · exact (hu.cell _ (World.block_lt_of_cell? w _ h.d) (fun e => (hR _ e).2.2.2.2.2.2 rfl)).trans h.d

/-- The blocks that added writes. -/
def AddQ (RB P OB PB GB SB B : Nat) (p : Addr) : Prop := p.block = RB ∨ p.block = P ∨ p.block = OB ∨ p.block = PB ∨ p.block = GB ∨ p.block = SB ∨ p.block = B

/-- What added leaves. -/
def RetAdded (RB Q P OB PB GB SB n L : Nat) (group : Nat → Nat) (i : Nat) (B BB FB nb nf M x : Nat) (w w' : World) : Prop :=
  ∃ SB' L' C' order' pos' start', RarH RB Q P OB PB GB SB' n L' C' order' pos' (upd group i (group i + 1)) start' w' ∧ Inv0 n L' order' pos' (upd group i (group i + 1)) start' ∧ (L' = if group i + 2 = L then L + 1 else L) ∧ (SB' = SB ∨ w.heap.size ≤ SB') ∧ PeerAt B BB FB nb nf n M x w' ∧ Upd (AddQ RB P OB PB GB SB B) w w'

theorem BitOn.upd {R : Addr → Prop} {BB i : Nat} {w w' : World} (h : BitOn BB i w) (hu : Upd R w w') (hR : ∀ p, R p → p.block ≠ BB) : BitOn BB i w' := by
  obtain ⟨y, h1, h2⟩ := h
  exact ⟨y, (hu.cell _ (World.block_lt_of_cell? w _ h1) (fun e => hR _ e rfl)).trans h1, h2⟩

set_option maxHeartbeats 2000000 in
theorem added_c (K HB HF RB Q P OB PB GB SB n L C : Nat) (order pos group start : Nat → Nat) (B BB FB nb nf M nn x i : Nat) (b : Nat → Bool) (hi : i < n) (hn : n ≤ 65536) (hL : L < 65536) (hx : x ≤ 65536) (hnb : nb = (n + 7) / 8) (w : World)
    (hr : RarH RB Q P OB PB GB SB n L C order pos group start w) (hI : Inv0 n L order pos group start) (hk : PickAt K HB HF nb nf n RB w) (hp : PeerAt B BB FB nb nf n M x w) (ho : BitOn BB i w) (hm : BanM M nn n b w)
    (oK : Off P RB OB PB GB SB Q K) (oH : Off P RB OB PB GB SB Q HB) (oB : Off P RB OB PB GB SB Q B) (oBB : Off P RB OB PB GB SB Q BB) (oF : Off P RB OB PB GB SB Q FB) (oM : Off P RB OB PB GB SB Q M) :
    Calls Try.prog 39 #[.pointer (some ⟨K, 0, Option.none⟩), .pointer (some ⟨B, 0, Option.none⟩), .int .i64 (i : Int)] w fun e w' => e = .returned (.tuple #[]) ∧ RetAdded RB Q P OB PB GB SB n L group i B BB FB nb nf M (if b i then x else x + 1) w w' := by
  have C34 : Hid (Calls Try.prog 34 #[.pointer (some ⟨RB, 0, Option.none⟩), .int .i64 (i : Int)] w fun e w' => e = .returned (.tuple #[]) ∧ RetAdd RB Q P OB PB GB SB n L group i w w') := add_c RB Q P OB PB GB SB n L C order pos group start i hi hn hL w hr hI
  have C45 : Hid (∀ w', PickAt K HB HF nb nf n RB w' → PeerAt B BB FB nb nf n M x w' → BitOn BB i w' → BanM M nn n b w' → Calls Try.prog 45 #[.pointer (some ⟨K, 0, Option.none⟩), .pointer (some ⟨B, 0, Option.none⟩), .int .i64 (i : Int)] w' fun e w'' => e = .returned (.bool (!b i)) ∧ Below w'.heap.size w' w'') :=
    fun w' h1 h2 h3 h4 => wants_c K HB HF RB B BB FB nb nf n M nn x i b hi hn hnb w' h1 h2 h3 h4
  have c19 := hk.c19
  have HA : Hid (PickAt K HB HF nb nf n RB w ∧ PeerAt B BB FB nb nf n M x w ∧ BitOn BB i w ∧ BanM M nn n b w) := ⟨hk, hp, ho, hm⟩
  obtain ⟨t, ht⟩ : ∃ t, t = b i := ⟨_, rfl⟩
  rw [← ht] at C45 ⊢
  obtain ⟨y, hy⟩ : ∃ y : Nat, IntKind.i64.wrap ((x : Int) + 1) = (y : Int) := ⟨x + 1, by rw [IntKind.wrap_i64]; omega⟩
  have HY : Hid (y = x + 1) := by show y = x + 1; rw [IntKind.wrap_i64] at hy; omega
  clear hk hp ho hm ht hnb hr hI
  go_enter Try.func39, Try.ntmps39
  go_wp2_with fail
  refine C34.out.mono ?_
  rintro e w1 ⟨rfl, SB', L', C', order', pos', start', r1, r2, r3, r4, r5⟩
  have hq : ∀ p, RarQ' RB P OB PB GB SB p → p.block = RB ∨ p.block = P ∨ p.block = OB ∨ p.block = PB ∨ p.block = GB ∨ p.block = SB := by
    rintro p (e | e | e | e | e | e)
    · exact .inl (by first | exact e | rw [e])
    · exact .inr (.inl e)
    · exact .inr (.inr (.inl e))
    · exact .inr (.inr (.inr (.inl e)))
    · exact .inr (.inr (.inr (.inr (.inl e))))
    · exact .inr (.inr (.inr (.inr (.inr e))))
  have off : ∀ z, Off P RB OB PB GB SB Q z → ∀ p, RarQ' RB P OB PB GB SB p → p.block ≠ z := by
    intro z ⟨a1, a2, a3, a4, a5, a6, a7⟩ p hp e
    rcases hq p hp with h | h | h | h | h | h
    · exact a2 (e.symm.trans h)
    · exact a1 (e.symm.trans h)
    · exact a3 (e.symm.trans h)
    · exact a4 (e.symm.trans h)
    · exact a5 (e.symm.trans h)
    · exact a6 (e.symm.trans h)
  have H1 : Hid (PickAt K HB HF nb nf n RB w1 ∧ PeerAt B BB FB nb nf n M x w1 ∧ BitOn BB i w1 ∧ BanM M nn n b w1) :=
    ⟨HA.out.1.upd r4 (fun p hp => ⟨off _ oK p hp, off _ oH p hp⟩), HA.out.2.1.upd r4 (fun p hp => ⟨off _ oB p hp, off _ oBB p hp, off _ oF p hp⟩), HA.out.2.2.1.upd r4 (off _ oBB), HA.out.2.2.2.upd r4 (off _ oM)⟩
  have oB' : Off P RB OB PB GB SB' Q B := by
    obtain ⟨a1, a2, a3, a4, a5, a6, a7⟩ := oB
    refine ⟨a1, a2, a3, a4, a5, ?_, a7⟩
    rcases r5 with e | e
    · rw [e]; exact a6
    · have := HA.out.2.1.lt.1; omega
  have HR : Hid (RarH RB Q P OB PB GB SB' n L' C' order' pos' (upd group i (group i + 1)) start' w1 ∧ Inv0 n L' order' pos' (upd group i (group i + 1)) start' ∧ (L' = if group i + 2 = L then L + 1 else L) ∧ Upd (AddQ RB P OB PB GB SB B) w w1 ∧ (SB' = SB ∨ w.heap.size ≤ SB') ∧ Off P RB OB PB GB SB' Q B) := by
    refine ⟨r1, r2, r3, r4.mono (fun p hp => ?_), r5, oB'⟩
    rcases hq p hp with h | h | h | h | h | h
    · exact .inl h
    · exact .inr (.inl h)
    · exact .inr (.inr (.inl h))
    · exact .inr (.inr (.inr (.inl h)))
    · exact .inr (.inr (.inr (.inr (.inl h))))
    · exact .inr (.inr (.inr (.inr (.inr (.inl h)))))
  clear r1 r2 r3 r4 r5 hq off oB' c19 oK oH oB oBB oF oM
  go_wp2_with fail
  refine (C45.out _ H1.out.1 H1.out.2.1 H1.out.2.2.1 H1.out.2.2.2).mono ?_
  rintro e w2 ⟨rfl, hb2⟩
  have H2 : Hid (PeerAt B BB FB nb nf n M x w2 ∧ RarH RB Q P OB PB GB SB' n L' C' order' pos' (upd group i (group i + 1)) start' w2 ∧ Upd (AddQ RB P OB PB GB SB B) w w2) := ⟨H1.out.2.1.below hb2, HR.out.1.below hb2, HR.out.2.2.2.1.below hb2⟩
  clear hb2
  cases t
  case true =>
    go_wp2_with fail
    simp [bodyPost, results, Try.results39, go_sem]
    exact ⟨SB', L', C', order', pos', start', H2.out.2.1, HR.out.2.1, HR.out.2.2.1, HR.out.2.2.2.2.1, H2.out.1, H2.out.2.2⟩
  case false =>
    have c6 := H2.out.1.c6
    have z6 := H2.out.1.bf.z 6
    go_wp2_with fail
    simp [bodyPost, results, Try.results39, go_sem]
    have hU : Upd (fun q => q = (⟨B, 6, Option.none⟩ : Addr)) w2 (w2.setCell ⟨B, 6, Option.none⟩ (.int .i64 (y : Int))) := Upd.set (Q := fun q => q = (⟨B, 6, Option.none⟩ : Addr)) (p := ⟨B, 6, Option.none⟩) (Upd.refl _ w2) rfl _
    refine ⟨SB', L', C', order', pos', start', H2.out.2.1.upd hU (fun p hp => by rw [hp]; exact HR.out.2.2.2.2.2), HR.out.2.1, HR.out.2.2.1, HR.out.2.2.2.2.1, ?_, ?_⟩
    · rw [← HY.out]; exact H2.out.1.setW y
    · exact Upd.set (Q := AddQ RB P OB PB GB SB B) (p := ⟨B, 6, Option.none⟩) H2.out.2.2 (.inr (.inr (.inr (.inr (.inr (.inr rfl)))))) _

set_option maxHeartbeats 1000000 in
/-- ZZpickerAdded. -/
theorem pickerAdded_w (K B i : Nat) (w : World) (Post : Ending → World → Prop) (hP : ∀ e w', Post e w' → e = .returned (.tuple #[]))
    (C39 : Hid (Calls Try.prog 39 #[.pointer (some ⟨K, 0, Option.none⟩), .pointer (some ⟨B, 0, Option.none⟩), .int .i64 (i : Int)] w Post)) :
    Calls Try.prog 28 #[.pointer (some ⟨K, 0, Option.none⟩), .pointer (some ⟨B, 0, Option.none⟩), .int .i64 (i : Int)] w Post := by
  have HP : Hid (∀ e w', Post e w' → e = .returned (.tuple #[])) := hP
  clear hP
  go_enter Try.func28, Try.ntmps28
  go_wp2_with fail
  refine C39.out.mono ?_
  intro e w1 h1
  obtain rfl := HP.out _ _ h1
  have H1 : Hid (Post (.returned (.tuple #[])) w1) := h1
  clear h1
  go_wp2_with fail
  simp [bodyPost, results, Try.results28, go_sem]
  exact H1.out

end Go.Proofs.Qxb6616210a
