import Derived.Test.Qxb6616210aRow
namespace Go.Proofs.Qxb6616210a
open Go.RowKit
set_option linter.unusedVariables false
set_option linter.unusedSimpArgs false
set_option maxRecDepth 100000

/-- The captured slice and its row. -/
structure PermH (VB OB n : Nat) (σ : Nat → Nat) (w : World) : Prop where
  v : w.cell? ⟨VB, 0, Option.none⟩ = some (.slice (some ⟨OB, 0, Option.none⟩) n n)
  r : NRow OB n σ w
  ne : OB ≠ VB

theorem PermH.swapped {VB OB n : Nat} {σ : Nat → Nat} {w : World} (h : PermH VB OB n σ w) {i j : Nat} (hi : i < n) (hj : j < n) :
    PermH VB OB n (sw σ i j) (((w.setCell ⟨OB, i, Option.none⟩ (.int .i64 ((σ j : Nat) : Int))).setCell ⟨OB, j, Option.none⟩ (.int .i64 ((σ i : Nat) : Int))).drew) ∧
    Upd (fun p => p.block = OB) w (((w.setCell ⟨OB, i, Option.none⟩ (.int .i64 ((σ j : Nat) : Int))).setCell ⟨OB, j, Option.none⟩ (.int .i64 ((σ i : Nat) : Int))).drew) := by
  refine ⟨⟨?_, ((h.r.set hi (σ j)).set hj (σ i)).drew, h.ne⟩, ?_⟩
  · have : ((w.setCell ⟨OB, i, Option.none⟩ (.int .i64 ((σ j : Nat) : Int))).setCell ⟨OB, j, Option.none⟩ (.int .i64 ((σ i : Nat) : Int))).cell? ⟨VB, 0, Option.none⟩ = some (.slice (some ⟨OB, 0, Option.none⟩) n n) := by
      rw [World.cell?_setCell_other _ _ _ _ (fun e => h.ne (congrArg Addr.block e)), World.cell?_setCell_other _ _ _ _ (fun e => h.ne (congrArg Addr.block e))]
      exact h.v
    exact this
  · exact (Upd.set (Q := fun p => p.block = OB) (p := ⟨OB, j, Option.none⟩) (Upd.set (Q := fun p => p.block = OB) (p := ⟨OB, i, Option.none⟩) (Upd.refl _ _) rfl _) rfl _).drew

set_option maxHeartbeats 2000000 in
theorem perm1_c (VB OB n : Nat) (σ : Nat → Nat) (i j : Nat) (hi : i < n) (hj : j < n) (hn : n ≤ 65536) (w : World) (h : PermH VB OB n σ w) :
    Calls Try.prog 47 #[.int .i64 (i : Int), .int .i64 (j : Int), .pointer (some ⟨VB, 0, Option.none⟩)] w fun e w' => e = .returned (.tuple #[]) ∧ PermH VB OB n (sw σ i j) w' ∧ Upd (fun p => p.block = OB) w w' := by
  have HS := h.swapped hi hj
  have v := h.v
  have ci := h.r.c i hi; have cj := h.r.c j hj; have zi := h.r.z i; have zj := h.r.z j
  have i1 : (i : Int) < (n : Int) := by omega
  have i2 : (j : Int) < (n : Int) := by omega
  have ne1 : OB ≠ VB := h.ne
  have ne2 : VB ≠ OB := Ne.symm h.ne
  clear h
  by_cases hij : i = j
  · subst hij
    obtain ⟨a, ha⟩ : ∃ a : Int, ((σ i : Nat) : Int) = a := ⟨_, rfl⟩
    rw [ha] at ci cj HS
    have HS' : Hid (PermH VB OB n (sw σ i i) (((w.setCell ⟨OB, i, Option.none⟩ (.int .i64 a)).setCell ⟨OB, i, Option.none⟩ (.int .i64 a)).drew) ∧ Upd (fun p => p.block = OB) w (((w.setCell ⟨OB, i, Option.none⟩ (.int .i64 a)).setCell ⟨OB, i, Option.none⟩ (.int .i64 a)).drew)) := HS
    clear ha HS
    go_enter Try.func47, Try.ntmps47
    go_wp2_with fail
    go_region
    all_goals go_wp2_with fail
    simp [bodyPost, results, Try.results47, go_sem]
    exact HS'.out
  · obtain ⟨a, ha⟩ : ∃ a : Int, ((σ i : Nat) : Int) = a := ⟨_, rfl⟩
    obtain ⟨b, hb⟩ : ∃ b : Int, ((σ j : Nat) : Int) = b := ⟨_, rfl⟩
    rw [ha, hb] at HS
    rw [ha] at ci; rw [hb] at cj
    have HS' : Hid (PermH VB OB n (sw σ i j) (((w.setCell ⟨OB, i, Option.none⟩ (.int .i64 b)).setCell ⟨OB, j, Option.none⟩ (.int .i64 a)).drew) ∧ Upd (fun p => p.block = OB) w (((w.setCell ⟨OB, i, Option.none⟩ (.int .i64 b)).setCell ⟨OB, j, Option.none⟩ (.int .i64 a)).drew)) := HS
    clear ha hb HS
    go_enter Try.func47, Try.ntmps47
    go_wp2_with fail
    go_region
    all_goals go_wp2_with fail
    simp [bodyPost, results, Try.results47, go_sem]
    exact HS'.out

/-- What Shuffle keeps. -/
structure ShufH (w : World) (Q P VB OB n : Nat) (wx : World) : Prop where
  ex : ∃ σ y, PermH VB OB n σ wx ∧ IsPerm n σ ∧ PcgAt P y wx
  r : RandAt Q P wx
  ne : Q ≠ P ∧ Q ≠ OB ∧ P ≠ OB ∧ P ≠ VB
  up : Upd (fun p => p.block = P ∨ p.block = OB) w wx

theorem PcgAt.upd {Q : Addr → Prop} {P x : Nat} {w w' : World} (h : PcgAt P x w) (hu : Upd Q w w') (hq : ∀ p, Q p → p.block ≠ P) : PcgAt P x w' := by
  have hb := h.block
  obtain ⟨hi, lo, h1, h2, h3, h4⟩ := h
  exact ⟨hi, lo, h1, h2, h3, ⟨(hu.cell _ hb (fun e => hq _ e rfl)).trans h4.c0, (hu.cell _ hb (fun e => hq _ e rfl)).trans h4.c1, (hu.frozen (p := ⟨P, 0, Option.none⟩) hb hq).trans h4.f0, (hu.frozen (p := ⟨P, 1, Option.none⟩) hb hq).trans h4.f1⟩⟩

theorem ShufH.turn {w : World} {Q P VB OB n : Nat} {wr w1 w2 : World} (h : ShufH w Q P VB OB n wr) {y' : Nat} {σ : Nat → Nat} (hσ : IsPerm n σ) (h1 : RH wr Q P y' w1) (h2 : PermH VB OB n σ w2) (h3 : Upd (fun p => p.block = OB) w1 w2) : ShufH w Q P VB OB n w2 := by
  obtain ⟨n1, n2, n3, n4⟩ := h.ne
  refine ⟨⟨σ, y', h2, hσ, h1.p.upd h3 (fun p e k => n3 (k.symm.trans e))⟩, ?_, h.ne, ?_⟩
  · exact (h3.cell _ (World.block_lt_of_cell? w1 _ h1.r) (fun e => n2 e)).trans h1.r
  · exact (h.up.trans (h1.up.mono (fun p hp => .inl hp))).trans (h3.mono (fun p hp => .inr hp))

theorem PermH.upd {Q : Addr → Prop} {VB OB n : Nat} {σ : Nat → Nat} {w w' : World} (h : PermH VB OB n σ w) (hu : Upd Q w w') (hv : ¬ Q ⟨VB, 0, Option.none⟩) (ho : ∀ p, Q p → p.block ≠ OB) : PermH VB OB n σ w' :=
  ⟨(hu.cell _ (World.block_lt_of_cell? w _ h.v) hv).trans h.v, h.r.upd hu ho, h.ne⟩

set_option maxHeartbeats 2000000 in
theorem shuffle_c (Q P VB OB n : Nat) (hn : n ≤ 65536) (w : World) (h : ShufH w Q P VB OB n w) :
    Calls Try.prog 46 #[.pointer (some ⟨Q, 0, Option.none⟩), .int .i64 (n : Int), .func (.func 47) #[] #[.pointer (some ⟨VB, 0, Option.none⟩)]] w fun e w' => e = .returned (.tuple #[]) ∧ ShufH w Q P VB OB n w' := by
  have H0 : Hid (ShufH w Q P VB OB n w) := h
  have k1 : decide ((n : Int) < 0) = false := decide_eq_false (by omega)
  clear h
  obtain ⟨t, ht⟩ : ∃ t : Int, IntKind.i64.wrap ((n : Int) - 1) = t := ⟨_, rfl⟩
  have HT : Hid (t = (n : Int) - 1) := by show t = _; rw [← ht, IntKind.wrap_i64]; omega
  go_enter Try.func46, Try.ntmps46
  go_wp2_with fail
  go_loopg [6, 7] n (fun gk s6 s7 wx => ∃ z : Int, s6 = .int .i64 z ∧ Aside (-1 ≤ z ∧ z < (n : Int) ∧ gk = (z + 1).toNat ∧ ShufH w Q P VB OB n wx))
  case atStart => exact ⟨t, rfl, by have := HT.out; omega, by have := HT.out; omega, by have := HT.out; omega, H0.out⟩
  case round =>
    obtain ⟨z, rfl, HJ⟩ := hrel
    clear H0 HT ht
    by_cases hz : 0 < z
    · obtain ⟨i, rfl⟩ := Int.eq_ofNat_of_zero_le (show 0 ≤ z by omega)
      have hi : i < n := by have := HJ.out.2.1; omega
      have e1 : IntKind.i64.wrap ((i : Int) + 1) = ((i + 1 : Nat) : Int) := by rw [IntKind.wrap_i64]; omega
      obtain ⟨i', hi'⟩ : ∃ i', i' = i + 1 := ⟨_, rfl⟩
      rw [← hi'] at e1
      have e2 : IntKind.u64.wrap (i' : Int) = (i' : Int) := by rw [IntKind.wrap_u64]; omega
      obtain ⟨σ, y, hp, hσ, hy⟩ := HJ.out.2.2.2.ex
      have HP : Hid (PermH VB OB n σ wr ∧ IsPerm n σ) := ⟨hp, hσ⟩
      have C50 : Hid (Calls Try.prog 50 #[.pointer (some ⟨Q, 0, Option.none⟩), .int .u64 (i' : Int)] wr fun e w' => RetBelow i' e ∧ ∃ y, RH wr Q P y w') :=
        uint64n_c wr Q P i' (by omega) (by omega) y wr ⟨HJ.out.2.2.2.r, hy, HJ.out.2.2.2.ne.1, Upd.refl _ _⟩
      have HI : Hid (i' = i + 1 ∧ i < n ∧ 0 < i ∧ gk = i + 1) := ⟨hi', hi, by omega, by have := HJ.out.2.2.1; omega⟩
      clear hp hσ hy hi'
      have kz : decide (0 < (i : Int)) = true := decide_eq_true hz
      go_wp2_with fail
      refine C50.out.mono ?_
      rintro e w1 ⟨⟨r, rfl, hr⟩, y', hy'⟩
      have HR : Hid (r < n ∧ RH wr Q P y' w1) := ⟨by have := HI.out; omega, hy'⟩
      have e3 : IntKind.i64.wrap (r : Int) = (r : Int) := by have := HR.out.1; rw [IntKind.wrap_i64]; omega
      clear hr hy'
      have hP1 : PermH VB OB n σ w1 := HP.out.1.upd HR.out.2.up (fun e => HJ.out.2.2.2.ne.2.2.2 e.symm) (fun p e k => HJ.out.2.2.2.ne.2.2.1 (e.symm.trans k))
      have C47 : Hid (Calls Try.prog 47 #[.int .i64 (i : Int), .int .i64 (r : Int), .pointer (some ⟨VB, 0, Option.none⟩)] w1 fun e w' => e = .returned (.tuple #[]) ∧ PermH VB OB n (sw σ i r) w' ∧ Upd (fun p => p.block = OB) w1 w') := perm1_c VB OB n σ i r HI.out.2.1 HR.out.1 hn w1 hP1
      clear hP1
      go_wp2_with fail
      refine C47.out.mono ?_
      rintro e w2 ⟨rfl, h2, h3⟩
      have HF : Hid (ShufH w Q P VB OB n w2) := HJ.out.2.2.2.turn (HP.out.2.sw HI.out.2.1 HR.out.1) HR.out.2 h2 h3
      clear h2 h3
      go_wp2_with fail
      go_roundg i
      case measure => have := HI.out; omega
      case rel =>
        refine ⟨(i : Int) - 1, ?_, by have := HI.out; omega, by have := HI.out; omega, by have := HI.out; omega, HF.out⟩
        first | rfl | (rw [IntKind.wrap_i64]; congr 1; have := HI.out; omega)
    · have kz : decide (0 < z) = false := decide_eq_false hz
      go_wp2_with fail
      simp [bodyPost, results, Try.results46, go_sem]
      exact HJ.out.2.2.2

/-- What Perm answers. -/
def RetPerm (w : World) (Q P n : Nat) (e : Ending) (w' : World) : Prop :=
  ∃ σ y OB, e = .returned (.slice (some ⟨OB, 0, Option.none⟩) n n) ∧ NRow OB n σ w' ∧ IsPerm n σ ∧ w.heap.size ≤ OB ∧ RH w Q P y w'

theorem perm_end {w wx w' : World} {Q P VB OB n : Nat} (h : ShufH wx Q P VB OB n w') (hO : w.heap.size ≤ OB) (hu : Upd (fun p => p.block = P ∨ p.block = OB) w wx) :
    RetPerm w Q P n (.returned (.slice (some ⟨OB, 0, Option.none⟩) n n)) w' := by
  obtain ⟨σ, y, h1, h2, h3⟩ := h.ex
  refine ⟨σ, y, OB, rfl, h1.r, h2, hO, ⟨h.r, h3, h.ne.1, ?_⟩⟩
  have := hu.trans h.up
  exact ⟨this.size, fun p hp hq => this.cell p hp (by rintro (e | e); exact hq e; omega), fun N h1 h2 => this.low N (by rintro p (e | e); exact h1 p e; omega) h2, fun k hk hq => this.blk k hk (by rintro p (e | e); exact hq p e; omega)⟩

/-- The first k numbers, 0 behind. -/
def fillTo (k : Nat) : Nat → Nat := fun j => if j < k then j else 0
theorem fillTo_next (k j : Nat) : upd (fillTo k) k k j = fillTo (k + 1) j := by
  unfold upd fillTo
  by_cases h : j = k
  · subst h; simp
  · rw [if_neg h]
    by_cases h2 : j < k
    · rw [if_pos h2, if_pos (by omega)]
    · rw [if_neg h2, if_neg (by omega)]

set_option maxHeartbeats 2000000 in
theorem perm_c (Q P n : Nat) (hn : n ≤ 65536) (y : Nat) (w : World) (hR : RandAt Q P w) (hP : PcgAt P y w) (hne : Q ≠ P) :
    Calls Try.prog 40 #[.pointer (some ⟨Q, 0, Option.none⟩), .int .i64 (n : Int)] w fun e w' => RetPerm w Q P n e w' := by
  obtain ⟨ob, hob, hmk⟩ := mk23 n (by omega)
  have HOB : Hid (MadeOf (.int .i64 0) n ob) := hob
  have H0 : Hid (RandAt Q P w ∧ PcgAt P y w ∧ Q ≠ P) := ⟨hR, hP, hne⟩
  clear hob hR hP hne
  go_enter Try.func40, Try.ntmps40
  go_wp2_with fail
  have HI : Aside (PermH (w.heap.size + 1) w.heap.size n (fillTo 0) ((w.alloc ob).alloc (.cells #[.slice (some ⟨w.heap.size, 0, Option.none⟩) n n] 23)) ∧ Below w.heap.size w ((w.alloc ob).alloc (.cells #[.slice (some ⟨w.heap.size, 0, Option.none⟩) n n] 23))) := by
    refine ⟨⟨by simp [go_sem], ((nrow_made HOB.out w).below ((Below.refl _ _).alloc (Nat.le_refl _) _)).congr (fun j _ => rfl), by omega⟩, ((Below.refl _ _).alloc (Nat.le_refl _) _).alloc (by simp) _⟩
  go_loopg [6, 11] n (fun gk s6 s11 wx => ∃ k : Nat, s11 = .int .i64 (k : Int) ∧ k ≤ n ∧ gk = n - k ∧ Aside (PermH (w.heap.size + 1) w.heap.size n (fillTo k) wx ∧ Below w.heap.size w wx))
  case atStart => exact ⟨0, rfl, Nat.zero_le _, rfl, HI⟩
  case round =>
    obtain ⟨k, rfl, hk, hgk, HJ⟩ := hrel
    clear HI hmk HOB
    have v := HJ.out.1.v
    by_cases hlt : k < n
    · have ck := HJ.out.1.r.c k hlt; have zk := HJ.out.1.r.z k
      have i1 : (k : Int) < (n : Int) := by omega
      have HN : Hid (PermH (w.heap.size + 1) w.heap.size n (fillTo (k + 1)) (wr.setCell ⟨w.heap.size, k, Option.none⟩ (.int .i64 (k : Int))) ∧ Below w.heap.size w (wr.setCell ⟨w.heap.size, k, Option.none⟩ (.int .i64 (k : Int)))) := by
        refine ⟨⟨?_, (HJ.out.1.r.set hlt k).congr (fun j _ => (fillTo_next k j).symm), by omega⟩, HJ.out.2.setCell (Nat.le_refl _) _⟩
        rw [World.cell?_setCell_other _ _ _ _ (fun e => by have := congrArg Addr.block e; simp at this)]
        exact HJ.out.1.v
      go_wp2_with fail
      go_roundg (n - (k + 1))
      case measure => omega
      case rel => exact ⟨k + 1, by go_num, by omega, rfl, HN.out⟩
    · have i1 : ¬ (k : Int) < (n : Int) := by omega
      have hkn : k = n := by omega
      subst hkn
      have HS : Hid (ShufH wr Q P (w.heap.size + 1) w.heap.size k wr) := by
        have hq := World.block_lt_of_cell? w _ H0.out.1
        have hp := H0.out.2.1.block
        have hq' : Q < w.heap.size := hq
        refine ⟨⟨fun j => j, y, ⟨HJ.out.1.v, HJ.out.1.r.congr (fun j hj => by unfold fillTo; rw [if_pos hj]), HJ.out.1.ne⟩, ⟨fun j hj => hj, fun i j _ _ h => h, fun y hy => ⟨y, hy, rfl⟩⟩, H0.out.2.1.below HJ.out.2⟩, cell_below HJ.out.2 H0.out.1, ⟨H0.out.2.2, by omega, by omega, by omega⟩, Upd.refl _ _⟩
      have C46 : Hid (Calls Try.prog 46 #[.pointer (some ⟨Q, 0, Option.none⟩), .int .i64 (k : Int), .func (.func 47) #[] #[.pointer (some ⟨w.heap.size + 1, 0, Option.none⟩)]] wr fun e w' => e = .returned (.tuple #[]) ∧ ShufH wr Q P (w.heap.size + 1) w.heap.size k w') := shuffle_c Q P _ _ k hn wr HS.out
      clear HS
      go_wp2_with fail
      refine C46.out.mono ?_
      rintro e w1 ⟨rfl, h1⟩
      have HE : Hid (RetPerm w Q P k (.returned (.slice (some ⟨w.heap.size, 0, Option.none⟩) k k)) w1) := perm_end h1 (Nat.le_refl _) (Upd.of_below HJ.out.2)
      obtain ⟨σ, y', h2, _, _⟩ := h1.ex
      have v1 := h2.v
      clear h1 h2
      go_wp2_with fail
      go_ret
      exact HE.out

end Go.Proofs.Qxb6616210a
