import Derived.Test.Qxb6616210aRar
namespace Go.Proofs.Qxb6616210a
open Go.RowKit
set_option linter.unusedVariables false
set_option linter.unusedSimpArgs false
set_option maxRecDepth 100000

/-- The row behind a slice that may grow. -/
def OwnS (SB L C : Nat) (w : World) : Prop := ∃ cur, w.heap[SB]? = some (.cells cur 3 (0, 0)) ∧ cur.size = C ∧ L ≤ C ∧ C ≤ maxLen
theorem OwnS.of_blk {SB L C : Nat} {w w' : World} (h : OwnS SB L C w) (hb : w'.heap[SB]? = w.heap[SB]?) : OwnS SB L C w' := by
  obtain ⟨cur, h1, h2⟩ := h
  exact ⟨cur, hb.trans h1, h2⟩
theorem OwnS.set {SB L C : Nat} {w : World} (h : OwnS SB L C w) (p : Addr) (u : Value) : OwnS SB L C (w.setCell p u) := by
  by_cases hp : SB = p.block
  · obtain ⟨cur, h1, h2, h3⟩ := h
    subst hp
    cases hs : p.spot with
    | none => exact ⟨cur.setIfInBounds p.off u, by simp [World.setCell, Array.getElem?_modify, h1, hs], by simpa using h2, h3⟩
    | some k => exact ⟨cur, by simp [World.setCell, Array.getElem?_modify, h1, hs], h2, h3⟩
  · exact h.of_blk (Below.heap_setCell w p u SB hp)

/-- A rarity in memory: RB its block, the rows order, pos, group, start. -/
structure RarAt (RB Q OB PB GB SB n L C : Nat) (order pos group start : Nat → Nat) (w : World) : Prop where
  q : w.cell? ⟨RB, 0, Option.none⟩ = some (.pointer (some ⟨Q, 0, Option.none⟩))
  o : w.cell? ⟨RB, 1, Option.none⟩ = some (.slice (some ⟨OB, 0, Option.none⟩) n n)
  p : w.cell? ⟨RB, 2, Option.none⟩ = some (.slice (some ⟨PB, 0, Option.none⟩) n n)
  g : w.cell? ⟨RB, 3, Option.none⟩ = some (.slice (some ⟨GB, 0, Option.none⟩) n n)
  s : w.cell? ⟨RB, 4, Option.none⟩ = some (.slice (some ⟨SB, 0, Option.none⟩) L C)
  zs : w.frozen? ⟨RB, 4, Option.none⟩ = false
  ro : NRow OB n order w
  rp : NRow PB n pos w
  rg : NRow GB n group w
  rs : NRow SB L start w
  os : OwnS SB L C w
  ne : OB ≠ PB ∧ OB ≠ GB ∧ OB ≠ SB ∧ PB ≠ GB ∧ PB ≠ SB ∧ GB ≠ SB ∧ OB ≠ RB ∧ PB ≠ RB ∧ GB ≠ RB ∧ SB ≠ RB

section
variable {RB Q OB PB GB SB n L C : Nat} {order pos group start : Nat → Nat} {w w' : World}
theorem RarAt.below (h : RarAt RB Q OB PB GB SB n L C order pos group start w) (hb : Below w.heap.size w w') : RarAt RB Q OB PB GB SB n L C order pos group start w' :=
  ⟨cell_below hb h.q, cell_below hb h.o, cell_below hb h.p, cell_below hb h.g, cell_below hb h.s, (hb.frozen (p := ⟨RB, 4, Option.none⟩) (World.block_lt_of_cell? w _ h.s)).trans h.zs, h.ro.below hb, h.rp.below hb, h.rg.below hb, h.rs.below hb, h.os.of_blk (hb.block SB h.rs.lt), h.ne⟩
theorem RarAt.drewN (h : RarAt RB Q OB PB GB SB n L C order pos group start w) (k : Nat) : RarAt RB Q OB PB GB SB n L C order pos group start (w.drewN k) := h.below (below_drewN (Below.refl _ _) k)
theorem RarAt.drew (h : RarAt RB Q OB PB GB SB n L C order pos group start w) : RarAt RB Q OB PB GB SB n L C order pos group start w.drew := h.below (Below.refl _ _).drew
theorem RarAt.upd {R : Addr → Prop} (h : RarAt RB Q OB PB GB SB n L C order pos group start w) (hu : Upd R w w') (hR : ∀ p, R p → p.block ≠ RB ∧ p.block ≠ OB ∧ p.block ≠ PB ∧ p.block ≠ GB ∧ p.block ≠ SB) : RarAt RB Q OB PB GB SB n L C order pos group start w' :=
  have l := World.block_lt_of_cell? w _ h.q
  have c : ∀ k, w'.cell? ⟨RB, k, Option.none⟩ = w.cell? ⟨RB, k, Option.none⟩ := fun k => hu.cell _ l (fun e => (hR _ e).1 rfl)
  ⟨(c 0).trans h.q, (c 1).trans h.o, (c 2).trans h.p, (c 3).trans h.g, (c 4).trans h.s, (hu.frozen (p := ⟨RB, 4, Option.none⟩) l (fun p hp => (hR p hp).1)).trans h.zs, h.ro.upd hu (fun p hp => (hR p hp).2.1), h.rp.upd hu (fun p hp => (hR p hp).2.2.1), h.rg.upd hu (fun p hp => (hR p hp).2.2.2.1), h.rs.upd hu (fun p hp => (hR p hp).2.2.2.2), h.os.of_blk (hu.blk SB h.rs.lt (fun p hp => (hR p hp).2.2.2.2)), h.ne⟩

theorem RarAt.setO (h : RarAt RB Q OB PB GB SB n L C order pos group start w) {x : Nat} (hx : x < n) (v : Nat) : RarAt RB Q OB PB GB SB n L C (Qxb6616210a.upd order x v) pos group start (w.setCell ⟨OB, x, Option.none⟩ (.int .i64 (v : Int))) := by
  obtain ⟨n1, n2, n3, n4, n5, n6, n7, n8, n9, n10⟩ := h.ne
  have c : ∀ k, (w.setCell ⟨OB, x, Option.none⟩ (.int .i64 (v : Int))).cell? ⟨RB, k, Option.none⟩ = w.cell? ⟨RB, k, Option.none⟩ := fun k => World.cell?_setCell_other _ _ _ _ (fun e => n7 (congrArg Addr.block e))
  exact ⟨(c 0).trans h.q, (c 1).trans h.o, (c 2).trans h.p, (c 3).trans h.g, (c 4).trans h.s, by rw [World.frozen?_setCell]; exact h.zs, h.ro.set hx v, h.rp.other n1 _, h.rg.other n2 _, h.rs.other n3 _, h.os.set _ _, h.ne⟩
theorem RarAt.setP (h : RarAt RB Q OB PB GB SB n L C order pos group start w) {x : Nat} (hx : x < n) (v : Nat) : RarAt RB Q OB PB GB SB n L C order (Qxb6616210a.upd pos x v) group start (w.setCell ⟨PB, x, Option.none⟩ (.int .i64 (v : Int))) := by
  obtain ⟨n1, n2, n3, n4, n5, n6, n7, n8, n9, n10⟩ := h.ne
  have c : ∀ k, (w.setCell ⟨PB, x, Option.none⟩ (.int .i64 (v : Int))).cell? ⟨RB, k, Option.none⟩ = w.cell? ⟨RB, k, Option.none⟩ := fun k => World.cell?_setCell_other _ _ _ _ (fun e => n8 (congrArg Addr.block e))
  exact ⟨(c 0).trans h.q, (c 1).trans h.o, (c 2).trans h.p, (c 3).trans h.g, (c 4).trans h.s, by rw [World.frozen?_setCell]; exact h.zs, h.ro.other (Ne.symm n1) _, h.rp.set hx v, h.rg.other n4 _, h.rs.other n5 _, h.os.set _ _, h.ne⟩
theorem RarAt.setG (h : RarAt RB Q OB PB GB SB n L C order pos group start w) {x : Nat} (hx : x < n) (v : Nat) : RarAt RB Q OB PB GB SB n L C order pos (Qxb6616210a.upd group x v) start (w.setCell ⟨GB, x, Option.none⟩ (.int .i64 (v : Int))) := by
  obtain ⟨n1, n2, n3, n4, n5, n6, n7, n8, n9, n10⟩ := h.ne
  have c : ∀ k, (w.setCell ⟨GB, x, Option.none⟩ (.int .i64 (v : Int))).cell? ⟨RB, k, Option.none⟩ = w.cell? ⟨RB, k, Option.none⟩ := fun k => World.cell?_setCell_other _ _ _ _ (fun e => n9 (congrArg Addr.block e))
  exact ⟨(c 0).trans h.q, (c 1).trans h.o, (c 2).trans h.p, (c 3).trans h.g, (c 4).trans h.s, by rw [World.frozen?_setCell]; exact h.zs, h.ro.other (Ne.symm n2) _, h.rp.other (Ne.symm n4) _, h.rg.set hx v, h.rs.other n6 _, h.os.set _ _, h.ne⟩
theorem RarAt.setS (h : RarAt RB Q OB PB GB SB n L C order pos group start w) {x : Nat} (hx : x < L) (v : Nat) : RarAt RB Q OB PB GB SB n L C order pos group (Qxb6616210a.upd start x v) (w.setCell ⟨SB, x, Option.none⟩ (.int .i64 (v : Int))) := by
  obtain ⟨n1, n2, n3, n4, n5, n6, n7, n8, n9, n10⟩ := h.ne
  have c : ∀ k, (w.setCell ⟨SB, x, Option.none⟩ (.int .i64 (v : Int))).cell? ⟨RB, k, Option.none⟩ = w.cell? ⟨RB, k, Option.none⟩ := fun k => World.cell?_setCell_other _ _ _ _ (fun e => n10 (congrArg Addr.block e))
  exact ⟨(c 0).trans h.q, (c 1).trans h.o, (c 2).trans h.p, (c 3).trans h.g, (c 4).trans h.s, by rw [World.frozen?_setCell]; exact h.zs, h.ro.other (Ne.symm n3) _, h.rp.other (Ne.symm n5) _, h.rg.other (Ne.symm n6) _, h.rs.set hx v, h.os.set _ _, h.ne⟩
end

set_option maxHeartbeats 2000000 in
theorem swap_c (RB Q OB PB GB SB n L C : Nat) (order pos group start : Nat → Nat) (x y : Nat) (hx : x < n) (hy : y < n) (hn : n ≤ 65536) (hox : order x < n) (hoy : order y < n) (hinj : order x = order y → x = y) (w : World) (h : RarAt RB Q OB PB GB SB n L C order pos group start w) :
    Calls Try.prog 41 #[.pointer (some ⟨RB, 0, Option.none⟩), .int .i64 (x : Int), .int .i64 (y : Int)] w fun e w' => e = .returned (.tuple #[]) ∧ RarAt RB Q OB PB GB SB n L C (sw order x y) (upd (upd pos (order x) y) (order y) x) group start w' ∧ Upd (fun p => p.block = OB ∨ p.block = PB) w w' := by
  obtain ⟨i, hi⟩ : ∃ i, order x = i := ⟨_, rfl⟩
  obtain ⟨j, hj⟩ : ∃ j, order y = j := ⟨_, rfl⟩
  have H0 : Hid (RarAt RB Q OB PB GB SB n L C order pos group start w) := h
  have co := h.o; have cp := h.p
  have cx := h.ro.c x hx; have cy := h.ro.c y hy
  rw [hi] at cx hox; rw [hj] at cy hoy
  have i1 : (x : Int) < (n : Int) := by omega
  have i2 : (y : Int) < (n : Int) := by omega
  have i3 : (i : Int) < (n : Int) := by omega
  have i4 : (j : Int) < (n : Int) := by omega
  obtain ⟨n1, n2, n3, n4, n5, n6, n7, n8, n9, n10⟩ := h.ne
  have m1 : RB ≠ OB := Ne.symm n7
  have m2 : RB ≠ PB := Ne.symm n8
  have HO : Hid (order x = i ∧ order y = j) := ⟨hi, hj⟩
  have HIJ : Hid (i = j → x = y) := fun e => hinj (by rw [hi, hj, e])
  clear h hinj n2 n3 n4 n5 n6 n9 n10
  by_cases hxy : x = y
  · subst hxy
    obtain rfl : i = j := hi.symm.trans hj
    clear hi hj cy i2 i4
    go_enter Try.func41, Try.ntmps41
    go_upto_region 1 with (first | go_quiet (fail))
    obtain ⟨w1, hw1⟩ : ∃ w1, w1 = w.drewN nq := ⟨_, rfl⟩
    rw [← hw1]
    have h1 : RarAt RB Q OB PB GB SB n L C order pos group start w1 := by rw [hw1]; exact H0.out.drewN nq
    have HU1 : Hid (Upd (fun p => p.block = OB ∨ p.block = PB) w w1) := by rw [hw1]; exact Upd.of_below (below_drewN (Below.refl _ _) nq)
    clear hw1
    have co1 := h1.o
    have dx := h1.ro.c x hx; have zx := h1.ro.z x; have dy := h1.ro.c x hy; have zy := h1.ro.z x
    have H1 : Hid (RarAt RB Q OB PB GB SB n L C order pos group start w1) := h1
    clear h1 co cp
    go_cut [6, 7] (fun s6 s7 wx => s6 = .int .i64 (i : Int) ∧ s7 = .int .i64 (i : Int) ∧ Aside (RarAt RB Q OB PB GB SB n L C (upd (upd order x i) x i) pos group start wx ∧ Upd (fun p => p.block = OB ∨ p.block = PB) w wx))
    case first =>
      go_region
      all_goals go_wp2_with fail
      all_goals go_meet
      case rel =>
        exact ⟨rfl, rfl, ((H1.out.setO hx i).setO hy i).drew, (Upd.set (p := ⟨OB, x, Option.none⟩) (Upd.set (p := ⟨OB, x, Option.none⟩) HU1.out (.inl rfl) _) (.inl rfl) _).drew⟩
    case rest =>
      obtain ⟨rfl, rfl, HC⟩ := hcut
      clear co1 dx dy zx zy H1
      have cp2 := HC.out.1.p
      have ei := HC.out.1.rp.c i hox; have ej := HC.out.1.rp.c i hoy; have zi := HC.out.1.rp.z i; have zj := HC.out.1.rp.z i
      have HF : Hid (RarAt RB Q OB PB GB SB n L C (sw order x x) (upd (upd pos (order x) x) (order x) x) group start (((wc.setCell ⟨PB, i, Option.none⟩ (.int .i64 (x : Int))).setCell ⟨PB, i, Option.none⟩ (.int .i64 (x : Int))).drew) ∧ Upd (fun p => p.block = OB ∨ p.block = PB) w (((wc.setCell ⟨PB, i, Option.none⟩ (.int .i64 (x : Int))).setCell ⟨PB, i, Option.none⟩ (.int .i64 (x : Int))).drew)) := by
        unfold sw
        rw [HO.out.1]
        exact ⟨((HC.out.1.setP hox x).setP hoy x).drew, (Upd.set (p := ⟨PB, i, Option.none⟩) (Upd.set (p := ⟨PB, i, Option.none⟩) HC.out.2 (.inr rfl) _) (.inr rfl) _).drew⟩
      go_wp2_with fail
      go_region
      all_goals go_wp2_with fail
      simp [bodyPost, results, Try.results41, go_sem]
      exact HF.out
  · have hij : ¬ i = j := fun e => hxy (HIJ.out e)
    have hji : ¬ j = i := fun e => hij e.symm
    have hyx : ¬ y = x := fun e => hxy e.symm
    clear hi hj
    go_enter Try.func41, Try.ntmps41
    go_upto_region 1 with (first | go_quiet (fail))
    obtain ⟨w1, hw1⟩ : ∃ w1, w1 = w.drewN nq := ⟨_, rfl⟩
    rw [← hw1]
    have h1 : RarAt RB Q OB PB GB SB n L C order pos group start w1 := by rw [hw1]; exact H0.out.drewN nq
    have HU1 : Hid (Upd (fun p => p.block = OB ∨ p.block = PB) w w1) := by rw [hw1]; exact Upd.of_below (below_drewN (Below.refl _ _) nq)
    clear hw1
    have co1 := h1.o
    have dx := h1.ro.c x hx; have zx := h1.ro.z x; have dy := h1.ro.c y hy; have zy := h1.ro.z y
    have H1 : Hid (RarAt RB Q OB PB GB SB n L C order pos group start w1) := h1
    clear h1 co cp
    go_cut [6, 7] (fun s6 s7 wx => s6 = .int .i64 (i : Int) ∧ s7 = .int .i64 (j : Int) ∧ Aside (RarAt RB Q OB PB GB SB n L C (upd (upd order x j) y i) pos group start wx ∧ Upd (fun p => p.block = OB ∨ p.block = PB) w wx))
    case first =>
      go_region
      all_goals go_wp2_with fail
      all_goals go_meet
      case rel =>
        exact ⟨rfl, rfl, ((H1.out.setO hx j).setO hy i).drew, (Upd.set (p := ⟨OB, y, Option.none⟩) (Upd.set (p := ⟨OB, x, Option.none⟩) HU1.out (.inl rfl) _) (.inl rfl) _).drew⟩
    case rest =>
      obtain ⟨rfl, rfl, HC⟩ := hcut
      clear co1 dx dy zx zy H1
      have cp2 := HC.out.1.p
      have ei := HC.out.1.rp.c i hox; have ej := HC.out.1.rp.c j hoy; have zi := HC.out.1.rp.z i; have zj := HC.out.1.rp.z j
      have HF : Hid (RarAt RB Q OB PB GB SB n L C (sw order x y) (upd (upd pos (order x) y) (order y) x) group start (((wc.setCell ⟨PB, i, Option.none⟩ (.int .i64 (y : Int))).setCell ⟨PB, j, Option.none⟩ (.int .i64 (x : Int))).drew) ∧ Upd (fun p => p.block = OB ∨ p.block = PB) w (((wc.setCell ⟨PB, i, Option.none⟩ (.int .i64 (y : Int))).setCell ⟨PB, j, Option.none⟩ (.int .i64 (x : Int))).drew)) := by
        unfold sw
        rw [HO.out.1, HO.out.2]
        exact ⟨((HC.out.1.setP hox y).setP hoy x).drew, (Upd.set (p := ⟨PB, j, Option.none⟩) (Upd.set (p := ⟨PB, i, Option.none⟩) HC.out.2 (.inr rfl) _) (.inr rfl) _).drew⟩
      go_wp2_with fail
      go_region
      all_goals go_wp2_with fail
      simp [bodyPost, results, Try.results41, go_sem]
      exact HF.out

end Go.Proofs.Qxb6616210a
