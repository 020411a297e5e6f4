import Derived.Test.Qxb6615850aCmp
import Derived.Test.Qxb6615850aMatch
namespace Go.Proofs.Qxb6615850a
open Go.RowKit
set_option linter.unusedVariables false

/-- The locking's blocks are blocks of their own, none below B. -/
structure Apart (y : Lay) (n k B : Nat) : Prop where
  hbf : ∀ u, u < n → y.hb u ∉ y.fix
  rbf : ∀ x, x < k → y.rb x ∉ y.fix
  hr : ∀ u x, u < n → x < k → y.hb u ≠ y.rb x
  hh : ∀ u v, u < n → v < n → y.hb u = y.hb v → u = v
  rr : ∀ u v, u < k → v < k → y.rb u = y.rb v → u = v
  ib : ∀ b ∈ [y.M, y.S, y.LB, y.NB, y.ZB, y.RB], b ≠ y.IB
  bh : ∀ u, u < n → B ≤ y.hb u
  br : ∀ x, x < k → B ≤ y.rb x
  bi : B ≤ y.IB

theorem Fixed.grown {w w' : World} {y : Lay} {n k : Nat} (F : Fixed w y n k) (hg : w.grownBy w' Option.none) : Fixed w' y n k :=
  F.kept hg.size (fun b h => hg.block b (F.lt b h) (by simp))

theorem St.grown {w w' : World} {y : Lay} {n k : Nat} {Wf : Nat → Int} {H : Nat → Nat → Option Bool} {Rd : Nat → Nat → Option Unit} (S : St w y n k Wf H Rd) (hg : w.grownBy w' Option.none) : St w' y n k Wf H Rd :=
  S.below ⟨hg.os, hg.tape, hg.output, hg.size, fun b hb => hg.block b hb (by simp)⟩

theorem St.row {w w' : World} {y : Lay} {n k g : Nat} {Wf : Nat → Int} {H : Nat → Nat → Option Bool} {Rd : Nat → Nat → Option Unit} (S : St w y n k Wf H Rd) (hg : w.grownBy w' (some g))
    (h1 : g ∉ y.fix) (h2 : ∀ u, u < n → y.hb u ≠ g) (h3 : ∀ x, x < k → y.rb x ≠ g) : St w' y n k Wf H Rd where
  fixed := S.fixed.kept hg.size (fun b h => hg.block b (S.fixed.lt b h) (by simp; intro e; exact h1 (e ▸ h)))
  wr := fun x hx => by rw [World.cell?_of_block (a := ad y.IB (x * 6)) (hg.block y.IB (S.fixed.lt _ (by simp [Lay.fix])) (by simp; intro e; exact h1 (e ▸ (by simp [Lay.fix]))))]; exact S.wr x hx
  held := fun u hu => (S.held u hu).kept (hg.block _ (S.held u hu).lt (by simp; exact h2 u hu))
  rds := fun u hu => (S.rds u hu).kept (hg.block _ (S.rds u hu).lt (by simp; exact h3 u hu))

theorem HeldM.drop {w : World} {b k : Nat} {h : Nat → Option Bool} (H : HeldM w b k h) (x : Nat) (hx : x < k) (hk : k ≤ 1000000) (ty : TypeId) :
    ∃ w', (Builtin.delete_ #[41, 3] ty #[.map (some b), .int .i64 x]).run Try.prog w = .ok (.tuple #[]) w' ∧ HeldM w' b k (fun z => if z = x then Option.none else h z) ∧ w.mapTurned w' b := by
  obtain ⟨D, nn, ho, hM⟩ := H
  obtain ⟨w', hrun, ho', ht⟩ := ho.drop K3 Try.underlying41 (key3 x (by omega)) ty
  exact ⟨w', hrun, ⟨_, _, ho', hM.del (ho.tidy K3) x hx⟩, ht⟩

theorem ReadM.drop {w : World} {b k : Nat} {h : Nat → Option Unit} (H : ReadM w b k h) (x : Nat) (hx : x < k) (hk : k ≤ 1000000) (ty : TypeId) :
    ∃ w', (Builtin.delete_ #[43, 3] ty #[.map (some b), .int .i64 x]).run Try.prog w = .ok (.tuple #[]) w' ∧ ReadM w' b k (fun z => if z = x then Option.none else h z) ∧ w.mapTurned w' b := by
  obtain ⟨D, nn, ho, hM⟩ := H
  obtain ⟨w', hrun, ho', ht⟩ := ho.drop K3 Try.underlying43 (key3 x (by omega)) ty
  exact ⟨w', hrun, ⟨_, _, ho', hM.del (ho.tidy K3) x hx⟩, ht⟩

/-- The state when t's lock on x is struck off t's list. -/
theorem St.dropHeld {w : World} {y : Lay} {n k B : Nat} {Wf : Nat → Int} {H : Nat → Nat → Option Bool} {Rd : Nat → Nat → Option Unit} (S : St w y n k Wf H Rd) (A : Apart y n k B) (t x : Nat) (ht : t < n) (hx : x < k) (hk : k ≤ 1000000) (ty : TypeId) :
    ∃ w', (Builtin.delete_ #[41, 3] ty #[.map (some (y.hb t)), .int .i64 x]).run Try.prog w = .ok (.tuple #[]) w' ∧ St w' y n k Wf (fun u z => if u = t ∧ z = x then Option.none else H u z) Rd ∧ w.grownBy w' (some (y.hb t)) := by
  obtain ⟨w', hrun, h', htn⟩ := (S.held t ht).drop x hx hk ty
  have hg := htn.grown
  refine ⟨w', hrun, ?_, hg⟩
  refine ⟨S.fixed.kept hg.size (fun b h => hg.block b (S.fixed.lt b h) (by simp; intro e; exact A.hbf t ht (e ▸ h))), fun z hz => ?_, fun u hu => ?_, fun z hz => (S.rds z hz).kept (hg.block _ (S.rds z hz).lt (by simp; exact fun e => A.hr t z ht hz e.symm))⟩
  · rw [World.cell?_of_block (a := ad y.IB (z * 6)) (hg.block y.IB (S.fixed.lt _ (by simp [Lay.fix])) (by simp; intro e; exact A.hbf t ht (e ▸ (by simp [Lay.fix]))))]; exact S.wr z hz
  · by_cases e : u = t
    · subst e
      exact h'.congr (fun z _ => by simp)
    · refine ((S.held u hu).kept (hg.block _ (S.held u hu).lt (by simp; exact fun e' => e (A.hh u t hu ht e')))).congr (fun z _ => by simp [e])

/-- .. when item x's writer is made none. -/
theorem St.setWriter {w : World} {y : Lay} {n k B : Nat} {Wf : Nat → Int} {H : Nat → Nat → Option Bool} {Rd : Nat → Nat → Option Unit} (S : St w y n k Wf H Rd) (A : Apart y n k B) (x : Nat) (hx : x < k) (c : Int) :
    St (w.setCell (ad y.IB (x * 6)) (.int .i64 c)) y n k (fun z => if z = x then c else Wf z) H Rd ∧ w.grownBy (w.setCell (ad y.IB (x * 6)) (.int .i64 c)) (some y.IB) := by
  have hg := grownBy_setCell_ad w y.IB (x * 6) (.int .i64 c)
  refine ⟨?_, hg⟩
  have F := S.fixed
  have oth : ∀ b o, b ∈ [y.M, y.S, y.LB, y.NB, y.ZB, y.RB] → (w.setCell (ad y.IB (x * 6)) (.int .i64 c)).cell? (ad b o) = w.cell? (ad b o) := fun b o hb =>
    World.cell?_setCell_other _ _ _ _ (by have := A.ib b hb; simp; exact fun e => absurd e (fun e => by first | exact this e | exact this e.symm))
  have ibo : ∀ o, o ≠ x * 6 → (w.setCell (ad y.IB (x * 6)) (.int .i64 c)).cell? (ad y.IB o) = w.cell? (ad y.IB o) := fun o ho => World.cell?_setCell_other _ _ _ _ (by simp; omega)
  refine ⟨?_, fun z hz => ?_, fun u hu => (S.held u hu).kept (hg.block _ (S.held u hu).lt (by simp; exact fun e => A.hbf u hu (e ▸ (by simp [Lay.fix])))), fun z hz => (S.rds z hz).kept (hg.block _ (S.rds z hz).lt (by simp; exact fun e => A.rbf z hz (e ▸ (by simp [Lay.fix]))))⟩
  · exact {
      mS := by rw [oth _ _ (by simp)]; exact F.mS
      mL := by rw [oth _ _ (by simp)]; exact F.mL
      mI := by rw [oth _ _ (by simp)]; exact F.mI
      sN := by rw [oth _ _ (by simp)]; exact F.sN
      sZ := by rw [oth _ _ (by simp)]; exact F.sZ
      sJ := by rw [oth _ _ (by simp)]; exact F.sJ
      sR := by rw [oth _ _ (by simp)]; exact F.sR
      sY := by rw [oth _ _ (by simp)]; exact F.sY
      sP := by rw [oth _ _ (by simp)]; exact F.sP
      hold := fun u hu => by rw [oth _ _ (by simp)]; exact F.hold u hu
      name := fun u hu => by obtain ⟨z, hz⟩ := F.name u hu; exact ⟨z, by rw [oth _ _ (by simp)]; exact hz⟩
      item := fun u hu => by obtain ⟨z, hz⟩ := F.item u hu; exact ⟨z, by rw [oth _ _ (by simp)]; exact hz⟩
      rank := fun u hu => by rw [oth _ _ (by simp)]; exact F.rank u hu
      read := fun u hu => by rw [ibo _ (by omega)]; exact F.read u hu
      ws := fun u hu => by rw [ibo _ (by omega)]; exact F.ws u hu
      wx := fun u hu => by rw [ibo _ (by omega)]; exact F.wx u hu
      wu := fun u hu => by rw [ibo _ (by omega)]; exact F.wu u hu
      ch := fun u hu => by rw [ibo _ (by omega)]; exact F.ch u hu
      fz := fun u hu => by rw [World.frozen?_setCell]; exact F.fz u hu
      lt := fun b hb => by simpa using F.lt b hb }
  · by_cases e : z = x
    · subst e
      rw [World.cell?_setCell_same _ _ _ (S.wr z hz)]; simp
    · rw [ibo _ (by omega), S.wr z hz, if_neg e]

/-- .. when t is struck off x's readers. -/
theorem St.dropRead {w : World} {y : Lay} {n k B : Nat} {Wf : Nat → Int} {H : Nat → Nat → Option Bool} {Rd : Nat → Nat → Option Unit} (S : St w y n k Wf H Rd) (A : Apart y n k B) (x t : Nat) (hx : x < k) (ht : t < n) (hn : n ≤ 1000000) (ty : TypeId) :
    ∃ w', (Builtin.delete_ #[43, 3] ty #[.map (some (y.rb x)), .int .i64 t]).run Try.prog w = .ok (.tuple #[]) w' ∧ St w' y n k Wf H (fun z u => if z = x ∧ u = t then Option.none else Rd z u) ∧ w.grownBy w' (some (y.rb x)) := by
  obtain ⟨w', hrun, h', htn⟩ := (S.rds x hx).drop t ht hn ty
  have hg := htn.grown
  refine ⟨w', hrun, ?_, hg⟩
  refine ⟨S.fixed.kept hg.size (fun b h => hg.block b (S.fixed.lt b h) (by simp; intro e; exact A.rbf x hx (e ▸ h))), fun z hz => ?_, fun u hu => (S.held u hu).kept (hg.block _ (S.held u hu).lt (by simp; exact A.hr u x hu hx)), fun z hz => ?_⟩
  · rw [World.cell?_of_block (a := ad y.IB (z * 6)) (hg.block y.IB (S.fixed.lt _ (by simp [Lay.fix])) (by simp; intro e; exact A.rbf x hx (e ▸ (by simp [Lay.fix]))))]; exact S.wr z hz
  · by_cases e : z = x
    · subst e
      exact h'.congr (fun u _ => by simp)
    · refine ((S.rds z hz).kept (hg.block _ (S.rds z hz).lt (by simp; exact fun e' => e (A.rr z x hz hx e')))).congr (fun u _ => by simp [e])

theorem St.congr {w : World} {y : Lay} {n k : Nat} {Wf Wf' : Nat → Int} {H H' : Nat → Nat → Option Bool} {Rd Rd' : Nat → Nat → Option Unit} (S : St w y n k Wf H Rd)
    (h1 : ∀ x, x < k → Wf x = Wf' x) (h2 : ∀ u x, u < n → x < k → H u x = H' u x) (h3 : ∀ x u, x < k → u < n → Rd x u = Rd' x u) : St w y n k Wf' H' Rd' where
  fixed := S.fixed
  wr := fun x hx => by rw [← h1 x hx]; exact S.wr x hx
  held := fun u hu => (S.held u hu).congr (fun x hx => h2 u x hu hx)
  rds := fun x hx => (S.rds x hx).congr (fun u hu => h3 x u hx hu)

/-! ### when some of t's locks, those on the items with d, are gone -/
def Hp (H : Nat → Nat → Option Bool) (t : Nat) (d : Nat → Bool) (u x : Nat) : Option Bool := if u = t ∧ d x = true then Option.none else H u x
def Wp (Wf : Nat → Int) (H : Nat → Nat → Option Bool) (t : Nat) (d : Nat → Bool) (x : Nat) : Int := if d x = true ∧ H t x = some true then -1 else Wf x
def Rp (Rd : Nat → Nat → Option Unit) (H : Nat → Nat → Option Bool) (t : Nat) (d : Nat → Bool) (x u : Nat) : Option Unit := if u = t ∧ d x = true ∧ H t x = some false then Option.none else Rd x u

/-- Ending t in the table: the state is the table's with t dead as well. -/
theorem St.ended {w : World} {y : Lay} {n k : Nat} {ws : Row} {R : Nat → Row} {dead : Nat → Bool} {t : Nat} (hok : ∀ x, x < k → OKat n ws R x) (hl : ∀ x, x < k → (R x).zs.length = (R x).len)
    (S : St w y n k (Wp (Wd ws dead) (Hd ws R dead) t (fun x => (Hd ws R dead t x).isSome)) (Hp (Hd ws R dead) t (fun x => (Hd ws R dead t x).isSome)) (Rp (Rdd R dead) (Hd ws R dead) t (fun x => (Hd ws R dead t x).isSome))) :
    St w y n k (Wd ws (fun u => dead u || decide (u = t))) (Hd ws R (fun u => dead u || decide (u = t))) (Rdd R (fun u => dead u || decide (u = t))) := by
  refine S.congr (fun x hx => ?_) (fun u x hu hx => ?_) (fun x u hx hu => ?_)
  · obtain ⟨h1, h2, h3, h4⟩ := hok x hx
    unfold Wp Wd
    dsimp only
    by_cases hw : ws.zs.getD x 0 = (t : Int)
    · rw [hw]
      simp only [Int.toNat_natCast, decide_true, Bool.or_true, Bool.true_eq_false, and_false, if_false]
      by_cases hd : dead t = true
      · rw [if_neg (c := 0 ≤ (t : Int) ∧ dead t = false) (by simp [hd])]; simp
      · have : Hd ws R dead t x = some true := by unfold Hd; rw [if_neg hd, if_pos hw]
        rw [this]; simp
    · have e2 : Hd ws R dead t x ≠ some true := by
        unfold Hd
        rw [if_neg hw]; split
        · simp
        · split <;> simp
      rw [if_neg (fun h => e2 h.2)]
      by_cases h0 : 0 ≤ ws.zs.getD x 0
      · have : decide ((ws.zs.getD x 0).toNat = t) = false := by rw [decide_eq_false_iff_not]; omega
        simp only [this, Bool.or_false]
      · rw [if_neg (fun h => h0 h.1), if_neg (fun h => h0 h.1)]
  · unfold Hp
    by_cases e : u = t
    · subst e
      have r : Hd ws R (fun v => dead v || decide (v = u)) u x = Option.none := by unfold Hd; simp
      rw [r]
      dsimp only
      by_cases ho : (Hd ws R dead u x).isSome = true
      · rw [if_pos ⟨rfl, ho⟩]
      · rw [if_neg (fun h => ho h.2)]; simpa using ho
    · rw [if_neg (fun h => e h.1)]
      unfold Hd
      have : decide (u = t) = false := by simpa using e
      simp only [this, Bool.or_false]
  · unfold Rp
    by_cases e : u = t
    · subst e
      have r : Rdd R (fun v => dead v || decide (v = u)) x u = Option.none := by unfold Rdd; simp
      rw [r]
      obtain ⟨h1, h2, h3, h4⟩ := hok x hx
      by_cases hd : dead u = true
      · have : Rdd R dead x u = Option.none := by unfold Rdd; simp [hd]
        rw [this]; simp
      · by_cases hw : ws.zs.getD x 0 = (u : Int)
        · have he : (R x).zs = [] := List.eq_nil_of_length_eq_zero (by rw [hl x hx]; exact h3 (by omega))
          have : Rdd R dead x u = Option.none := by unfold Rdd; rw [he]; simp [among]
          rw [this]; simp
        · by_cases ha : among (R x).zs u = true
          · have : Hd ws R dead u x = some false := by unfold Hd; rw [if_neg hd, if_neg hw, if_pos ha]
            rw [if_pos ⟨rfl, by dsimp only; rw [this]; rfl, this⟩]
          · have : Rdd R dead x u = Option.none := by unfold Rdd; simp [ha]
            rw [this]; simp
    · rw [if_neg (fun h => e h.1)]
      unfold Rdd
      have : decide (u = t) = false := by simpa using e
      simp only [this, Bool.or_false]

end Go.Proofs.Qxb6615850a
