import Derived.Test.Qxb6616210aAdd3
namespace Go.Proofs.Qxb6616210a
open Go.RowKit
set_option linter.unusedVariables false
set_option linter.unusedSimpArgs false
set_option maxRecDepth 100000

/-- The generator's two sides, held. -/
structure RndH (w : World) (Q P : Nat) (wx : World) : Prop where
  d : RandAt Q P wx
  y : ∃ y, PcgAt P y wx
  ne : Q ≠ P
  up : Upd (fun p => p.block = P) w wx

theorem RndH.below {w wx w' : World} {Q P : Nat} (h : RndH w Q P wx) (hb : Below wx.heap.size wx w') : RndH w Q P w' := by
  obtain ⟨y, hy⟩ := h.y
  exact ⟨cell_below hb h.d, ⟨y, hy.below hb⟩, h.ne, h.up.below hb⟩
theorem RndH.drew {w wx : World} {Q P : Nat} (h : RndH w Q P wx) : RndH w Q P wx.drew := h.below (Below.refl _ _).drew
theorem RndH.alloc {w wx : World} {Q P : Nat} (h : RndH w Q P wx) (o : Obj) : RndH w Q P (wx.alloc o) := h.below ((Below.refl _ _).alloc (Nat.le_refl _) o)

theorem RndH.perm {w wx : World} {Q P n : Nat} (h : RndH w Q P wx) (hn : n ≤ 65536) :
    Calls Try.prog 40 #[.pointer (some ⟨Q, 0, Option.none⟩), .int .i64 (n : Int)] wx fun e w' => ∃ OB σ, e = .returned (.slice (some ⟨OB, 0, Option.none⟩) n n) ∧ NRow OB n σ w' ∧ IsPerm n σ ∧ wx.heap.size ≤ OB ∧ RndH w Q P w' ∧ Upd (fun p => p.block = P) wx w' := by
  obtain ⟨y, hy⟩ := h.y
  refine (perm_c Q P n hn y wx h.d hy h.ne).mono ?_
  rintro e w' ⟨σ, y', OB, h1, h2, h3, h4, h5⟩
  exact ⟨OB, σ, h1, h2, h3, h4, ⟨h5.r, ⟨y', h5.p⟩, h5.ne, h.up.trans h5.up⟩, h5.up⟩

theorem below_alloc (w' : World) (o : Obj) : Below w'.heap.size w' (w'.alloc o) := (Below.refl _ _).alloc (Nat.le_refl _) _
theorem nrow_made1 {n : Nat} {ob : Obj} (h : MadeOf (.int .i64 0) n ob) (w : World) (o : Obj) : NRow (w.heap.size + 1) n (fun _ => 0) ((w.alloc o).alloc ob) := by
  have := nrow_made h (w.alloc o)
  rwa [show (w.alloc o).heap.size = w.heap.size + 1 from by simp] at this
theorem nrow_made2 {n : Nat} {ob : Obj} (h : MadeOf (.int .i64 0) n ob) (w : World) (o o' : Obj) : NRow (w.heap.size + 1 + 1) n (fun _ => 0) (((w.alloc o).alloc o').alloc ob) := by
  have := nrow_made h ((w.alloc o).alloc o')
  rwa [show ((w.alloc o).alloc o').heap.size = w.heap.size + 1 + 1 from by simp] at this

/-- The starts of a new rarity. -/
def st0 (n : Nat) : Nat → Nat := fun j => if j = 2 then n else 0
def StR (n B : Nat) (w : World) : Prop := NRow B 3 (st0 n) w ∧ OwnS B 3 3 w
theorem StR.below {n B : Nat} {w w' : World} (h : StR n B w) (hb : Below w.heap.size w w') : StR n B w' := ⟨h.1.below hb, h.2.of_blk (hb.block B h.1.lt)⟩
theorem StR.drew {n B : Nat} {w : World} (h : StR n B w) : StR n B w.drew := ⟨h.1.drew, h.2⟩
theorem StR.upd {Q : Addr → Prop} {n B : Nat} {w w' : World} (h : StR n B w) (hu : Upd Q w w') (hq : ∀ p, Q p → p.block ≠ B) : StR n B w' := ⟨h.1.upd hu hq, h.2.of_blk (hu.blk B h.1.lt hq)⟩
theorem st_made (n : Nat) (w : World) : StR n w.heap.size (w.alloc (.cells #[.int .i64 0, .int .i64 0, .int .i64 (n : Int)] 3)) := by
  refine ⟨⟨fun j hj => ?_, fun j => by simp [go_sem], by simp⟩, #[.int .i64 0, .int .i64 0, .int .i64 (n : Int)], heap_alloc_new w _, rfl, by omega, by unfold maxLen; omega⟩
  rcases j with _ | _ | _ | j
  · simp [go_sem, st0]
  · simp [go_sem, st0]
  · simp [go_sem, st0]
  · omega
theorem st_made1 (n : Nat) (w : World) (o : Obj) : StR n (w.heap.size + 1) ((w.alloc o).alloc (.cells #[.int .i64 0, .int .i64 0, .int .i64 (n : Int)] 3)) := by
  have := st_made n (w.alloc o)
  rwa [show (w.alloc o).heap.size = w.heap.size + 1 from by simp] at this
theorem st_made2 (n : Nat) (w : World) (o o' : Obj) : StR n (w.heap.size + 1 + 1) (((w.alloc o).alloc o').alloc (.cells #[.int .i64 0, .int .i64 0, .int .i64 (n : Int)] 3)) := by
  have := st_made n ((w.alloc o).alloc o')
  rwa [show ((w.alloc o).alloc o').heap.size = w.heap.size + 1 + 1 from by simp] at this

/-- A rarity as its literal lays it. -/
def NewRH (w : World) (Q P n RB : Nat) (wx : World) : Prop :=
  ∃ OB PB GB SB σ, RarH RB Q P OB PB GB SB n 3 3 σ (fun _ => 0) (fun _ => 0) (st0 n) wx ∧ IsPerm n σ ∧ (w.heap.size ≤ RB ∧ w.heap.size ≤ OB ∧ w.heap.size ≤ PB ∧ w.heap.size ≤ GB ∧ w.heap.size ≤ SB) ∧ Upd (fun p => p.block = P) w wx

theorem newr_close {w W : World} {Q P n OB PB GB SB RB : Nat} {σ : Nat → Nat} (hσ : IsPerm n σ) (hPl : P < w.heap.size) (hQl : Q < w.heap.size) (hRB : RB = W.heap.size) (hR : RndH w Q P W) (ho : NRow OB n σ W) (hp : NRow PB n (fun _ => 0) W) (hg : NRow GB n (fun _ => 0) W) (hs : StR n SB W)
    (hlt : w.heap.size ≤ OB ∧ w.heap.size ≤ PB ∧ w.heap.size ≤ GB ∧ w.heap.size ≤ SB) (hne : OB ≠ PB ∧ OB ≠ GB ∧ OB ≠ SB ∧ PB ≠ GB ∧ PB ≠ SB ∧ GB ≠ SB) :
    NewRH w Q P n RB (W.alloc (.cells #[.pointer (some ⟨Q, 0, Option.none⟩), .slice (some ⟨OB, 0, Option.none⟩) n n, .slice (some ⟨PB, 0, Option.none⟩) n n, .slice (some ⟨GB, 0, Option.none⟩) n n, .slice (some ⟨SB, 0, Option.none⟩) 3 3] 56)) := by
  subst hRB
  obtain ⟨l1, l2, l3, l4⟩ := hlt
  obtain ⟨n1, n2, n3, n4, n5, n6⟩ := hne
  have b := below_alloc W (.cells #[.pointer (some ⟨Q, 0, Option.none⟩), .slice (some ⟨OB, 0, Option.none⟩) n n, .slice (some ⟨PB, 0, Option.none⟩) n n, .slice (some ⟨GB, 0, Option.none⟩) n n, .slice (some ⟨SB, 0, Option.none⟩) 3 3] 56)
  have k1 := ho.lt; have k2 := hp.lt; have k3 := hg.lt; have k4 := hs.1.lt
  have k5 := hR.up.size
  obtain ⟨y, hy⟩ := hR.y
  refine ⟨OB, PB, GB, SB, σ, ⟨⟨by simp [go_sem], by simp [go_sem], by simp [go_sem], by simp [go_sem], by simp [go_sem], by simp [go_sem], ho.below b, hp.below b, hg.below b, hs.1.below b, hs.2.of_blk (b.block SB k4), ⟨n1, n2, n3, n4, n5, n6, by omega, by omega, by omega, by omega⟩⟩, cell_below b hR.d, ⟨y, hy.below b⟩, ⟨hR.ne, ⟨by omega, by omega, by omega, by omega, by omega⟩, by omega, by omega, by omega, by omega, by omega⟩⟩, hσ, ⟨by omega, l1, l2, l3, l4⟩, hR.up.below b⟩

theorem RarH.setP {RB Q P OB PB GB SB n L C : Nat} {order pos group start : Nat → Nat} {w : World} (h : RarH RB Q P OB PB GB SB n L C order pos group start w) {x : Nat} (hx : x < n) (v : Nat) : RarH RB Q P OB PB GB SB n L C order (upd pos x v) group start (w.setCell ⟨PB, x, Option.none⟩ (.int .i64 (v : Int))) := by
  obtain ⟨y, hy⟩ := h.y
  obtain ⟨n1, ⟨n2, n3, n4, n5, n6⟩, n7, n8, n9, n10, n11⟩ := h.ne
  exact ⟨h.r.setP hx v, (World.cell?_setCell_other _ _ _ _ (fun e => n9 (congrArg Addr.block e).symm)).trans h.d, ⟨y, hy.other (Ne.symm n4) _⟩, h.ne⟩

/-- A world that differs in block P and in new memory alone. -/
def UpdN (w : World) (P : Nat) (w' : World) : Prop := Upd (fun p => p.block = P) w w'
theorem UpdN.of {w w' : World} {P : Nat} (h : Upd (fun p => p.block = P) w w') : UpdN w P w' := h
theorem UpdN.set {w w' : World} {P : Nat} (h : UpdN w P w') {B k : Nat} (hB : w.heap.size ≤ B) (u : Value) : UpdN w P (w'.setCell ⟨B, k, Option.none⟩ u) := Upd.setNew (p := ⟨B, k, Option.none⟩) h hB u

def posF (σ : Nat → Nat) : Nat → Nat → Nat
  | 0 => fun _ => 0
  | k + 1 => upd (posF σ k) (σ k) k
def grpF (σ : Nat → Nat) : Nat → Nat → Nat
  | 0 => fun _ => 0
  | k + 1 => upd (grpF σ k) (σ k) 1

theorem posF_at {n : Nat} {σ : Nat → Nat} (h : IsPerm n σ) (k : Nat) (hk : k ≤ n) (x : Nat) (hx : x < k) : posF σ k (σ x) = x := by
  induction k with
  | zero => omega
  | succ k ih =>
    show upd (posF σ k) (σ k) k (σ x) = x
    by_cases e : x = k
    · subst e; rw [upd_same]
    · rw [upd_other _ _ _ (fun e' => e (h.inj _ _ (by omega) (by omega) e'))]
      exact ih (by omega) (by omega)
theorem grpF_at {n : Nat} {σ : Nat → Nat} (h : IsPerm n σ) (k : Nat) (hk : k ≤ n) (x : Nat) (hx : x < k) : grpF σ k (σ x) = 1 := by
  induction k with
  | zero => omega
  | succ k ih =>
    show upd (grpF σ k) (σ k) 1 (σ x) = 1
    by_cases e : x = k
    · subst e; rw [upd_same]
    · rw [upd_other _ _ _ (fun e' => e (h.inj _ _ (by omega) (by omega) e'))]
      exact ih (by omega) (by omega)
theorem grpF_all {n : Nat} {σ : Nat → Nat} (h : IsPerm n σ) (j : Nat) (hj : j < n) : grpF σ n j = 1 := by
  obtain ⟨x, hx, rfl⟩ := h.sur j hj
  exact grpF_at h n (Nat.le_refl _) x hx

theorem cntLt_none (f : Nat → Nat) (g n : Nat) (h : ∀ j, j < n → ¬ f j < g) : cntLt f g n = 0 := by
  induction n with
  | zero => rfl
  | succ n ih => unfold cntLt; rw [ih (fun j hj => h j (by omega)), if_neg (h n (by omega))]

theorem newr_inv {n : Nat} {σ : Nat → Nat} (h : IsPerm n σ) : Inv n 3 σ (posF σ n) (grpF σ n) (st0 n) := by
  have hg := fun j hj => grpF_all h j hj
  refine ⟨⟨fun x hx => ⟨h.lt x hx, posF_at h n (Nat.le_refl _) x hx⟩, fun i hi => ?_, fun j hj => by rw [hg j hj]; omega, fun g hg' => ?_, fun j hj => ?_⟩, .inl rfl⟩
  · obtain ⟨x, hx, rfl⟩ := h.sur i hi
    rw [posF_at h n (Nat.le_refl _) x hx]; exact ⟨hx, rfl⟩
  · by_cases e : g = 2
    · subst e
      rw [cntLt_all _ _ _ (fun j hj => by rw [hg j hj]; omega)]; rfl
    · rw [cntLt_none _ _ _ (fun j hj => by rw [hg j hj]; omega)]
      unfold st0; rw [if_neg e]
  · obtain ⟨x, hx, rfl⟩ := h.sur j hj
    rw [hg _ hj, posF_at h n (Nat.le_refl _) x hx]
    unfold st0
    rw [if_neg (by omega), if_pos rfl]
    omega

/-- What newRarity answers. -/
def RetNewR (w : World) (Q P n : Nat) (e : Ending) (w' : World) : Prop :=
  ∃ RB OB PB GB SB order pos group, e = .returned (.pointer (some ⟨RB, 0, Option.none⟩)) ∧ RarH RB Q P OB PB GB SB n 3 3 order pos group (st0 n) w' ∧ Inv n 3 order pos group (st0 n) ∧ (∀ j, j < n → group j = 1) ∧ (w.heap.size ≤ RB ∧ w.heap.size ≤ OB ∧ w.heap.size ≤ PB ∧ w.heap.size ≤ GB ∧ w.heap.size ≤ SB) ∧ UpdN w P w'

set_option maxHeartbeats 8000000 in
theorem newr_c (Q P n : Nat) (hn : n ≤ 65536) (w : World) (h : RndH w Q P w) (hPl : P < w.heap.size) (hQl : Q < w.heap.size) :
    Calls Try.prog 31 #[.int .i64 (n : Int), .pointer (some ⟨Q, 0, Option.none⟩)] w fun e w' => RetNewR w Q P n e w' := by
  obtain ⟨ob, hob, hmk⟩ := mk23 n (by omega)
  have HOB : Hid (MadeOf (.int .i64 0) n ob) := hob
  have C40 : Hid (∀ wx, RndH w Q P wx → Calls Try.prog 40 #[.pointer (some ⟨Q, 0, Option.none⟩), .int .i64 (n : Int)] wx fun e w' => ∃ OB σ, e = .returned (.slice (some ⟨OB, 0, Option.none⟩) n n) ∧ NRow OB n σ w' ∧ IsPerm n σ ∧ wx.heap.size ≤ OB ∧ RndH w Q P w' ∧ Upd (fun p => p.block = P) wx w') := fun wx h => h.perm hn
  have hD := h.drew
  have hA := fun o => hD.alloc o
  have hA2 := fun o o' => (hD.alloc o).alloc o'
  have hA3 := fun o o' o'' => ((hD.alloc o).alloc o').alloc o''
  clear hob h
  go_enter Try.func31, Try.ntmps31
  go_upto_region 1 with fail
  go_cut [5] (fun s5 wx => ∃ RB, s5 = .pointer (some ⟨RB, 0, Option.none⟩) ∧ Aside (NewRH w Q P n RB wx))
  case first =>
    go_region_with (first | (go_at_call 40; refine (C40.out _ (by first | assumption | exact hA _ | exact hA2 _ _ | exact hA3 _ _ _)).mono ?_; rintro e w5 ⟨OB, σ, rfl, hr, hp, ho, hR5, hU5⟩))
    all_goals (go_wp2_with fail; go_meet)
    all_goals refine ⟨_, rfl, newr_close hp hPl hQl (by simp) ?_ ?_ ?_ ?_ ?_ ?_ ?_⟩
    all_goals first
      | (with_reducible exact hR5)
      | (refine RndH.alloc ?_ _; with_reducible exact hR5)
      | (refine RndH.alloc (RndH.alloc ?_ _) _; with_reducible exact hR5)
      | (refine RndH.alloc (RndH.alloc (RndH.alloc ?_ _) _) _; with_reducible exact hR5)
      | (have q1 := hr.lt; have q2 := hU5.size; simp at ho q2; omega)
      | ((repeat (first | (with_reducible exact hr) | (with_reducible exact nrow_made HOB.out _) | (with_reducible exact nrow_made1 HOB.out _ _) | (with_reducible exact nrow_made2 HOB.out _ _ _) | (with_reducible refine NRow.below ?_ (below_alloc _ _)) | (with_reducible refine NRow.drew ?_) | (with_reducible refine NRow.upd ?_ hU5 (fun p e k => by omega)))); done)
      | ((repeat (first | (with_reducible exact st_made n _) | (with_reducible exact st_made1 n _ _) | (with_reducible exact st_made2 n _ _ _) | (with_reducible refine StR.below ?_ (below_alloc _ _)) | (with_reducible refine StR.drew ?_) | (with_reducible refine StR.upd ?_ hU5 (fun p e k => by omega)))); done)
  case rest =>
    obtain ⟨RB, rfl, HN⟩ := hcut
    clear hD hA hA2 hA3 hmk HOB C40
    obtain ⟨OB, PB, GB, SB, σ, hR, hσ, hl, hU⟩ := HN.out
    have c1 := hR.r.o
    have HS : Aside (RarH RB Q P OB PB GB SB n 3 3 σ (posF σ 0) (grpF σ 0) (st0 n) wc ∧ UpdN w P wc) := ⟨hR, UpdN.of hU⟩
    have HL : Hid (IsPerm n σ ∧ (w.heap.size ≤ RB ∧ w.heap.size ≤ OB ∧ w.heap.size ≤ PB ∧ w.heap.size ≤ GB ∧ w.heap.size ≤ SB)) := ⟨hσ, hl⟩
    clear hR hσ hl hU HN
    go_wp2_with fail
    go_loopg [6, 7, 25] n (fun gk s6 s7 s25 wx => ∃ k : Nat, s25 = .int .i64 (k : Int) ∧ k ≤ n ∧ gk = n - k ∧ Aside (RarH RB Q P OB PB GB SB n 3 3 σ (posF σ k) (grpF σ k) (st0 n) wx ∧ UpdN w P wx))
    case atStart => exact ⟨0, rfl, Nat.zero_le _, rfl, HS⟩
    case round =>
      obtain ⟨k, rfl, hk, hgk, HJ⟩ := hrel
      clear HS c1
      by_cases hlt : k < n
      · have i1 : (k : Int) < (n : Int) := by omega
        have hσk := HL.out.1.lt k hlt
        obtain ⟨v, hv⟩ : ∃ v, σ k = v := ⟨_, rfl⟩
        rw [hv] at hσk
        have i2 : (v : Int) < (n : Int) := by omega
        have ck := HJ.out.1.r.ro.c k hlt; rw [hv] at ck
        have c2 := HJ.out.1.r.p; have c3 := HJ.out.1.r.g
        have pv := HJ.out.1.r.rp.c v hσk; have zp := HJ.out.1.r.rp.z v
        have gv := HJ.out.1.r.rg.c v hσk; have zg := HJ.out.1.r.rg.z v
        have ne1 : PB ≠ RB := HJ.out.1.r.ne.2.2.2.2.2.2.2.1
        have ne2 : PB ≠ GB := HJ.out.1.r.ne.2.2.2.1
        have ne3 : RB ≠ PB := Ne.symm ne1
        have ne4 : GB ≠ PB := Ne.symm ne2
        have HN : Aside (RarH RB Q P OB PB GB SB n 3 3 σ (posF σ (k + 1)) (grpF σ (k + 1)) (st0 n) ((wr.setCell ⟨PB, v, Option.none⟩ (.int .i64 (k : Int))).setCell ⟨GB, v, Option.none⟩ (.int .i64 1)) ∧ UpdN w P ((wr.setCell ⟨PB, v, Option.none⟩ (.int .i64 (k : Int))).setCell ⟨GB, v, Option.none⟩ (.int .i64 1))) := by
          refine ⟨?_, (HJ.out.2.set HL.out.2.2.2.1 _).set HL.out.2.2.2.2.1 _⟩
          have h1 := (HJ.out.1.setP hσk k).setG hσk 1
          unfold posF grpF
          rw [hv]
          exact h1
        go_wp2_with fail
        go_roundg (n - (k + 1))
        case measure => omega
        case rel => exact ⟨k + 1, by go_num, by omega, rfl, HN⟩
      · have i1 : ¬ (k : Int) < (n : Int) := by omega
        have hkn : k = n := by omega
        subst hkn
        have HE : Hid (RetNewR w Q P k (.returned (.pointer (some ⟨RB, 0, Option.none⟩))) wr) := ⟨RB, OB, PB, GB, SB, σ, _, _, rfl, HJ.out.1, newr_inv HL.out.1, fun j hj => grpF_all HL.out.1 j hj, HL.out.2, HJ.out.2⟩
        go_wp2_with fail
        go_ret
        exact HE.out

end Go.Proofs.Qxb6616210a
