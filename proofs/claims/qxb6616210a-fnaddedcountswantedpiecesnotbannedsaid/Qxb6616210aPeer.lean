import Derived.Test.Qxb6616210aBan
namespace Go.Proofs.Qxb6616210a
open Go.RowKit
set_option linter.unusedVariables false
set_option linter.unusedSimpArgs false
set_option maxRecDepth 100000

/-- A peer in memory. -/
structure PeerAt (B BB FB nb nf n M x : Nat) (w : World) : Prop where
  bf : BF B BB FB nb nf n w
  c4 : w.cell? ⟨B, 4, Option.none⟩ = some (.map (some M))
  c6 : w.cell? ⟨B, 6, Option.none⟩ = some (.int .i64 (x : Int))

section
variable {B BB FB nb nf n M x : Nat} {w w' : World}
theorem PeerAt.below (h : PeerAt B BB FB nb nf n M x w) (hb : Below w.heap.size w w') : PeerAt B BB FB nb nf n M x w' :=
  ⟨h.bf.below hb, cell_below hb h.c4, cell_below hb h.c6⟩
theorem PeerAt.upd {Q : Addr → Prop} (h : PeerAt B BB FB nb nf n M x w) (hu : Upd Q w w') (hq : ∀ p, Q p → p.block ≠ B ∧ p.block ≠ BB ∧ p.block ≠ FB) : PeerAt B BB FB nb nf n M x w' :=
  have l := World.block_lt_of_cell? w _ h.c4
  have e : ∀ k, w'.cell? ⟨B, k, Option.none⟩ = w.cell? ⟨B, k, Option.none⟩ := fun k => hu.cell _ l (fun e => (hq _ e).1 rfl)
  ⟨h.bf.upd hu hq, (e 4).trans h.c4, (e 6).trans h.c6⟩
theorem PeerAt.other (h : PeerAt B BB FB nb nf n M x w) {p : Addr} (hp : p.block ≠ B ∧ p.block ≠ BB ∧ p.block ≠ FB) (u : Value) : PeerAt B BB FB nb nf n M x (w.setCell p u) :=
  h.upd (Upd.set (Q := fun q => q = p) (Upd.refl _ w) rfl u) (fun q hq => by rw [hq]; exact hp)
theorem PeerAt.lt (h : PeerAt B BB FB nb nf n M x w) : B < w.heap.size ∧ BB < w.heap.size ∧ FB < w.heap.size := ⟨World.block_lt_of_cell? w _ h.c4, h.bf.rb.lt, h.bf.rf.lt⟩
theorem PeerAt.setW (h : PeerAt B BB FB nb nf n M x w) (y : Nat) : PeerAt B BB FB nb nf n M y (w.setCell ⟨B, 6, Option.none⟩ (.int .i64 (y : Int))) := by
  obtain ⟨c, hc⟩ := h.bf.c2
  obtain ⟨n1, n2, n3⟩ := h.bf.ne
  have e : ∀ k, k ≠ 6 → (w.setCell ⟨B, 6, Option.none⟩ (.int .i64 (y : Int))).cell? ⟨B, k, Option.none⟩ = w.cell? ⟨B, k, Option.none⟩ := fun k hk => World.cell?_setCell_other _ _ _ _ (fun e => hk (congrArg Addr.off e).symm)
  exact ⟨⟨(e 0 (by omega)).trans h.bf.c0, (e 1 (by omega)).trans h.bf.c1, ⟨c, (e 2 (by omega)).trans hc⟩, (e 3 (by omega)).trans h.bf.c3, fun k => by rw [World.frozen?_setCell]; exact h.bf.z k, h.bf.rb.other (Ne.symm n1) _, h.bf.rf.other (Ne.symm n2) _, h.bf.ne⟩,
    (e 4 (by omega)).trans h.c4, World.cell?_setCell_same _ _ _ h.c6⟩
end

/-- What ZZnewPeer answers. -/
def RetPeer (w : World) (nb nf n M : Nat) (e : Ending) (w' : World) : Prop :=
  ∃ B BB FB, e = .returned (.pointer (some ⟨B, 0, Option.none⟩)) ∧ PeerAt B BB FB nb nf n M 0 w' ∧ (w.heap.size ≤ B ∧ w.heap.size ≤ BB ∧ w.heap.size ≤ FB) ∧ Below w.heap.size w w'

set_option maxHeartbeats 1000000 in
theorem newPeer_c (n M nb nf : Nat) (hn : n ≤ 65536) (hnb : nb = (n + 7) / 8) (hnf : nf = (nb + 63) / 64) (w : World) :
    Calls Try.prog 20 #[.int .i64 (n : Int), .map (some M)] w fun e w' => RetPeer w nb nf n M e w' := by
  have C35 : Hid (∀ w, Calls Try.prog 35 #[.int .i64 (n : Int)] w fun e w' => RetBits w nb nf n e w') := fun w => by subst hnf; subst hnb; exact newBits_c n hn w
  clear hnb hnf
  go_enter Try.func20, Try.ntmps20
  go_wp2_with fail
  refine (C35.out _).mono ?_
  rintro e w1 ⟨BB, FB, rfl, h1, h2, h3, h4, h5, h6, h7⟩
  have H : Hid (∀ ob, ob = Obj.cells #[.slice (some ⟨BB, 0, Option.none⟩) nb nb, .int .i64 (n : Int), .int .i64 0, .slice (some ⟨FB, 0, Option.none⟩) nf nf, .map (some M), .int .i64 0, .int .i64 0, .int .i64 0, .bool false] 70 → RetPeer w nb nf n M (.returned (.pointer (some ⟨w1.heap.size, 0, Option.none⟩))) (w1.alloc ob)) := by
    rintro ob rfl
    have l1 := h1.lt; have l2 := h2.lt
    have b := blk_alloc w1 (Obj.cells #[.slice (some ⟨BB, 0, Option.none⟩) nb nb, .int .i64 (n : Int), .int .i64 0, .slice (some ⟨FB, 0, Option.none⟩) nf nf, .map (some M), .int .i64 0, .int .i64 0, .int .i64 0, .bool false] 70)
    refine ⟨_, BB, FB, rfl, ⟨⟨by simp [go_sem], by simp [go_sem], ⟨0, by simp [go_sem]⟩, by simp [go_sem], fun k => by simp [go_sem], h1.below b, h2.below b, ⟨by omega, by omega, h6⟩⟩, by simp [go_sem], by simp [go_sem]⟩, ⟨h7.size, h4, h5⟩, h7.trans (b.mono h7.size)⟩
  clear h1 h2 h3 h4 h5 h6 h7
  go_wp2_with fail
  simp [bodyPost, results, Try.results20, go_sem]
  exact H.out _ rfl

set_option maxHeartbeats 1000000 in
/-- ZZpeerSetHas. -/
theorem setHas_c (B BB FB nb nf n M x i : Nat) (hi : i < n) (hn : n ≤ 65536) (hnb : nb = (n + 7) / 8) (hnf : nf = (nb + 63) / 64) (w : World) (h : PeerAt B BB FB nb nf n M x w) :
    Calls Try.prog 27 #[.pointer (some ⟨B, 0, Option.none⟩), .int .i64 (i : Int)] w fun e w' => e = .returned (.tuple #[]) ∧ PeerAt B BB FB nb nf n M x w' ∧ BitOn BB i w' ∧ Upd (SetQ B BB FB) w w' := by
  have C38 := set_c B BB FB nb nf n i hi hn hnb hnf w h.bf
  have H : Hid (PeerAt B BB FB nb nf n M x w) := h
  have C : Hid (Calls Try.prog 38 #[.pointer (some ⟨B, 0, Option.none⟩), .int .i64 (i : Int)] w fun e w' => e = .returned (.tuple #[]) ∧ BF B BB FB nb nf n w' ∧ BitOn BB i w' ∧ Upd (SetQ B BB FB) w w') := C38
  clear h hnb hnf C38
  go_enter Try.func27, Try.ntmps27
  go_wp2_with fail
  refine C.out.mono ?_
  rintro e w1 ⟨rfl, h1, h2, h3⟩
  have HE : Hid (PeerAt B BB FB nb nf n M x w1 ∧ BitOn BB i w1 ∧ Upd (SetQ B BB FB) w w1) := by
    have l := H.out.lt
    obtain ⟨n1, n2, n3⟩ := H.out.bf.ne
    have e : ∀ k, k ≠ 2 → w1.cell? ⟨B, k, Option.none⟩ = w.cell? ⟨B, k, Option.none⟩ := fun k hk => h3.cell _ l.1 (by rintro (e | e | e); exact hk (congrArg Addr.off e); exact n1 e.symm; exact n2 e.symm)
    refine ⟨⟨h1, (e 4 (by omega)).trans H.out.c4, (e 6 (by omega)).trans H.out.c6⟩, h2, h3⟩
  clear h1 h2 h3
  go_wp2_with fail
  simp [bodyPost, results, Try.results27, go_sem]
  exact HE.out

set_option maxHeartbeats 1000000 in
theorem wanted_c (B : Nat) (x : Int) (w : World) (h : w.cell? ⟨B, 6, Option.none⟩ = some (.int .i64 x)) :
    Calls Try.prog 22 #[.pointer (some ⟨B, 0, Option.none⟩)] w fun e w' => e = .returned (.int .i64 x) ∧ w' = w := by
  go_enter Try.func22, Try.ntmps22
  go_wp2_with fail
  go_ret
  exact ⟨rfl, rfl⟩

set_option maxHeartbeats 1000000 in
theorem interesting_c (p : Value) (B : Nat) (x : Int) (w : World) (h : w.cell? ⟨B, 6, Option.none⟩ = some (.int .i64 x)) :
    Calls Try.prog 23 #[p, .pointer (some ⟨B, 0, Option.none⟩)] w fun e w' => e = .returned (.bool (decide (0 < x))) ∧ w' = w := by
  go_enter Try.func23, Try.ntmps23
  go_wp2_with fail
  go_ret
  exact ⟨rfl, rfl⟩

end Go.Proofs.Qxb6616210a
