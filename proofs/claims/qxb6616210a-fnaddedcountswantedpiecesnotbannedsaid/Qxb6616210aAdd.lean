import Derived.Test.Qxb6616210aRarH
namespace Go.Proofs.Qxb6616210a
open Go.RowKit
set_option linter.unusedVariables false
set_option linter.unusedSimpArgs false
set_option maxRecDepth 100000

/-- The blocks that a rarity writes as it grows. -/
def RarQ' (RB P OB PB GB SB : Nat) (p : Addr) : Prop := p.block = RB ∨ p.block = P ∨ p.block = OB ∨ p.block = PB ∨ p.block = GB ∨ p.block = SB

theorem info3 : ∃ i, Try.prog.info? 3 = some i ∧ i.zero = some (.int .i64 0) ∧ i.size = 1 ∧ i.bytes = 8 := info_parts (by kernel_rfl)

theorem cell_of_blk {w : World} {B : Nat} {cur : Array Value} {t : TypeId} {fr : Nat × Nat} (h : w.heap[B]? = some (.cells cur t fr)) (j : Nat) : w.cell? ⟨B, j, Option.none⟩ = cur[j]? := by simp [World.cell?, h]
theorem froz_of_blk {w : World} {B : Nat} {cur : Array Value} {t : TypeId} (h : w.heap[B]? = some (.cells cur t (0, 0))) (j : Nat) : w.frozen? ⟨B, j, Option.none⟩ = false := by simp [World.frozen?, h]

/-- append(r.start, n), where the new slice lies. -/
theorem append_start {RB Q P OB PB GB SB n L C : Nat} {order pos group start : Nat → Nat} {w : World} (h : RarH RB Q P OB PB GB SB n L C order pos group start w) (hL : L ≤ 65536) (base : Nat) (hbase : base ≤ SB) (ty : TypeId) :
    ∃ g cap w1, (Builtin.append_ #[23, 23] ty #[.slice (some ⟨SB, 0, Option.none⟩) L C, .slice (some ⟨w.heap.size, 0, Option.none⟩) 1 1]).run Try.prog ((w.alloc (.cells #[.int .i64 (n : Int)] 3)).drew) = .ok (.slice (some ⟨g, 0, Option.none⟩) (L + 1) cap) w1 ∧
      NRow g (L + 1) (upd start L n) w1 ∧ OwnS g (L + 1) cap w1 ∧ (g = SB ∨ w.heap.size ≤ g) ∧ w.grownBy w1 (some SB) := by
  obtain ⟨i3, hi, hz, hs, hby⟩ := info3
  obtain ⟨cur, hc1, hc2, hc3, hc4⟩ := h.r.os
  have hlt : SB < w.heap.size := h.r.rs.lt
  obtain ⟨W, hW⟩ : ∃ W, W = (w.alloc (.cells #[.int .i64 (n : Int)] 3)).drew := ⟨_, rfl⟩
  have hbW : Below w.heap.size w W := by rw [hW]; exact ((Below.refl _ _).alloc (Nat.le_refl _) _).drew
  have hsz : W.heap.size = w.heap.size + 1 := by rw [hW]; simp
  have hown : W.ownsRow base 3 1 (.slice (some ⟨SB, 0, Option.none⟩) L C) L ((List.range L).map fun j => .int .i64 ((start j : Nat) : Int)) := by
    refine ⟨by simp, .inr ⟨SB, C, cur, rfl, hbase, (hbW.block SB hlt).trans hc1, hc3, hc4, by omega, ?_⟩⟩
    apply List.ext_getElem?
    intro j
    by_cases hj : j < L
    · have h1 := h.r.rs.c j hj
      rw [cell_of_blk hc1] at h1
      rw [List.getElem?_take_of_lt (by omega), Array.getElem?_toList, h1, List.getElem?_map, List.getElem?_range hj]
      rfl
    · rw [List.getElem?_eq_none (by simp; omega), List.getElem?_eq_none (by simp; omega)]
  have hnews : ∀ j u, [Value.int .i64 (n : Int)][j]? = some u → W.cell? ((⟨w.heap.size, 0, Option.none⟩ : Addr).add j) = some u := by
    intro j u hu
    have hj : j = 0 := by
      rcases j with _ | j
      · rfl
      · simp at hu
    subst hj
    have hadd : (⟨w.heap.size, 0, Option.none⟩ : Addr).add 0 = ⟨w.heap.size, 0, Option.none⟩ := by unfold Addr.add; simp
    rw [hadd, hW]
    have : u = .int .i64 (n : Int) := by simpa using hu.symm
    rw [this]
    simp [go_sem]
  obtain ⟨g, cap, w1, hr, h2, h3, h4, h5⟩ := run_append_lies (P := Try.prog) W 23 ty base 3 i3 (.int .i64 0) 1 8 Try.underlying23 hi hz hs hby rfl (by omega) (.slice (some ⟨SB, 0, Option.none⟩) L C) L _ hown ⟨w.heap.size, 0, Option.none⟩ 1 1 [.int .i64 (n : Int)] rfl hnews (by intro u hu; simp at hu; rw [hu]; rfl) (by omega) (by unfold maxLen; omega) (by omega) (by omega) _ rfl
  rw [← hW]
  refine ⟨g, cap, w1, hr, ?_⟩
  rcases h2.2 with ⟨_, h0⟩ | ⟨g', cap', cur', hv, hb, hg, hcl, hcm, hcs, hct⟩
  · omega
  obtain ⟨rfl, rfl⟩ : g = g' ∧ cap = cap' := by simp at hv; exact hv
  have hcell : ∀ j, j < L + 1 → cur'[j]? = some (.int .i64 ((upd start L n j : Nat) : Int)) := by
    intro j hj
    have e1 : cur'[j]? = (cur'.toList.take ((L + 1) * 1))[j]? := by rw [List.getElem?_take_of_lt (by omega), Array.getElem?_toList]
    rw [e1, hct]
    by_cases hjL : j = L
    · subst hjL
      rw [List.getElem?_append_right (by simp), upd_same]
      simp
    · rw [List.getElem?_append_left (by simp; omega), List.getElem?_map, List.getElem?_range (by omega), upd_other _ _ _ hjL]
      rfl
  refine ⟨⟨fun j hj => by rw [cell_of_blk hg]; exact hcell j hj, fun j => froz_of_blk hg j, h5⟩, ⟨cur', hg, by omega, hcl, hcm⟩, ?_, ?_⟩
  · rcases h4 with h4 | h4
    · left; simpa [Value.ownBlock] using h4.symm
    · right; omega
  · exact ⟨h3.os.trans hbW.os, h3.tape.trans hbW.tape, h3.output.trans hbW.output, Nat.le_trans hbW.size h3.size, fun k hk hne => (h3.block k (by omega) hne).trans (hbW.block k hk)⟩

end Go.Proofs.Qxb6616210a
