import Derived.Test.Qxb6616210aAdd
namespace Go.Proofs.Qxb6616210a
open Go.RowKit
set_option linter.unusedVariables false
set_option linter.unusedSimpArgs false
set_option maxRecDepth 100000

section
variable {RB Q P OB PB GB SB n L C : Nat} {order pos group start : Nat → Nat} {w w' : World}
theorem PcgAt.other {P x : Nat} {w : World} (h : PcgAt P x w) {p : Addr} (hp : p.block ≠ P) (u : Value) : PcgAt P x (w.setCell p u) :=
  h.upd (Q := fun q => q = p) (Upd.set (Q := fun q => q = p) (p := p) (Upd.refl _ _) rfl u) (fun q e k => hp (by rw [← e]; exact k))

theorem RarH.setS (h : RarH RB Q P OB PB GB SB n L C order pos group start w) {x : Nat} (hx : x < L) (v : Nat) : RarH RB Q P OB PB GB SB n L C order pos group (upd start x v) (w.setCell ⟨SB, x, Option.none⟩ (.int .i64 (v : Int))) := by
  obtain ⟨y, hy⟩ := h.y
  obtain ⟨n1, ⟨n2, n3, n4, n5, n6⟩, n7, n8, n9, n10, n11⟩ := h.ne
  exact ⟨h.r.setS hx v, (World.cell?_setCell_other _ _ _ _ (fun e => n11 (congrArg Addr.block e).symm)).trans h.d, ⟨y, hy.other (Ne.symm n6) _⟩, h.ne⟩
theorem RarH.setG (h : RarH RB Q P OB PB GB SB n L C order pos group start w) {x : Nat} (hx : x < n) (v : Nat) : RarH RB Q P OB PB GB SB n L C order pos (upd group x v) start (w.setCell ⟨GB, x, Option.none⟩ (.int .i64 (v : Int))) := by
  obtain ⟨y, hy⟩ := h.y
  obtain ⟨n1, ⟨n2, n3, n4, n5, n6⟩, n7, n8, n9, n10, n11⟩ := h.ne
  exact ⟨h.r.setG hx v, (World.cell?_setCell_other _ _ _ _ (fun e => n10 (congrArg Addr.block e).symm)).trans h.d, ⟨y, hy.other (Ne.symm n5) _⟩, h.ne⟩

/-- The slice grown and stored. -/
theorem RarH.grown (h : RarH RB Q P OB PB GB SB n L C order pos group start w) {g cap : Nat} {w1 : World} (hr : NRow g (L + 1) (upd start L n) w1) (ho : OwnS g (L + 1) cap w1) (hg : g = SB ∨ w.heap.size ≤ g) (hgr : w.grownBy w1 (some SB)) :
    RarH RB Q P OB PB GB g n (L + 1) cap order pos group (upd start L n) (w1.setCell ⟨RB, 4, Option.none⟩ (.slice (some ⟨g, 0, Option.none⟩) (L + 1) cap)) ∧ Upd (RarQ' RB P OB PB GB SB) w (w1.setCell ⟨RB, 4, Option.none⟩ (.slice (some ⟨g, 0, Option.none⟩) (L + 1) cap)) := by
  obtain ⟨y, hy⟩ := h.y
  obtain ⟨n1, ⟨n2, n3, n4, n5, n6⟩, n7, n8, n9, n10, n11⟩ := h.ne
  obtain ⟨m1, m2, m3, m4, m5, m6, m7, m8, m9, m10⟩ := h.r.ne
  have lR : RB < w.heap.size := World.block_lt_of_cell? w _ h.r.q
  have lO := h.r.ro.lt; have lP := h.r.rp.lt; have lG := h.r.rg.lt; have lS := h.r.rs.lt
  have lQ : Q < w.heap.size := World.block_lt_of_cell? w _ h.d
  have lp := hy.block
  have hU : Upd (fun p => p.block = SB) w w1 := by
    have hb : ∀ k, k < w.heap.size → k ≠ SB → w1.heap[k]? = w.heap[k]? := fun k hk hne => hgr.block k hk (by simpa using hne)
    refine ⟨hgr.size, fun p hp hq => World.cell?_of_block (hb p.block hp hq), fun N h1 h2 => ⟨hgr.os, hgr.tape, hgr.output, hgr.size, fun k hk => ?_⟩, fun k hk hq => hb k hk (fun e => hq ⟨SB, 0, Option.none⟩ rfl e.symm)⟩
    have h3 : N ≤ SB := h1 ⟨SB, 0, Option.none⟩ rfl
    exact hb k (by omega) (by omega)
  have hgO : g ≠ OB ∧ g ≠ PB ∧ g ≠ GB ∧ g ≠ RB ∧ g ≠ P ∧ g ≠ Q := by
    rcases hg with e | e
    · subst e; exact ⟨Ne.symm m3, Ne.symm m5, Ne.symm m6, m10, Ne.symm n6, Ne.symm n11⟩
    · exact ⟨by omega, by omega, by omega, by omega, by omega, by omega⟩
  obtain ⟨g1, g2, g3, g4, g5, g6⟩ := hgO
  have c : ∀ k, k ≠ 4 → (w1.setCell ⟨RB, 4, Option.none⟩ (.slice (some ⟨g, 0, Option.none⟩) (L + 1) cap)).cell? ⟨RB, k, Option.none⟩ = w.cell? ⟨RB, k, Option.none⟩ := fun k hk =>
    (World.cell?_setCell_other _ _ _ _ (fun e => hk (congrArg Addr.off e).symm)).trans (hU.cell _ lR (fun e => m10 e.symm))
  have c4 : w1.cell? ⟨RB, 4, Option.none⟩ = w.cell? ⟨RB, 4, Option.none⟩ := hU.cell _ lR (fun e => m10 e.symm)
  refine ⟨⟨⟨(c 0 (by omega)).trans h.r.q, (c 1 (by omega)).trans h.r.o, (c 2 (by omega)).trans h.r.p, (c 3 (by omega)).trans h.r.g, World.cell?_setCell_same _ _ _ (c4.trans h.r.s), ?_,
      (h.r.ro.upd hU (fun p e k => m3 (k.symm.trans e))).other (Ne.symm m7) _, (h.r.rp.upd hU (fun p e k => m5 (k.symm.trans e))).other (Ne.symm m8) _, (h.r.rg.upd hU (fun p e k => m6 (k.symm.trans e))).other (Ne.symm m9) _, hr.other (Ne.symm g4) _, ho.set _ _,
      ⟨m1, m2, Ne.symm g1, m4, Ne.symm g2, Ne.symm g3, m7, m8, m9, g4⟩⟩, ?_, ⟨y, (hy.upd hU (fun p e k => n6 (k.symm.trans e))).other (Ne.symm n2) _⟩, ⟨n1, ⟨n2, n3, n4, n5, Ne.symm g5⟩, n7, n8, n9, n10, Ne.symm g6⟩⟩, ?_⟩
  · rw [World.frozen?_setCell, hU.frozen (p := ⟨RB, 4, Option.none⟩) lR (fun p e k => m10 (e.symm.trans k))]
    exact h.r.zs
  · exact (World.cell?_setCell_other _ _ _ _ (fun e => n7 (congrArg Addr.block e).symm)).trans ((hU.cell _ lQ (fun e => n11 e)).trans h.d)
  · exact Upd.set (Q := RarQ' RB P OB PB GB SB) (p := ⟨RB, 4, Option.none⟩) (hU.mono (fun p e => .inr (.inr (.inr (.inr (.inr e)))))) (.inl rfl) _
end

end Go.Proofs.Qxb6616210a
