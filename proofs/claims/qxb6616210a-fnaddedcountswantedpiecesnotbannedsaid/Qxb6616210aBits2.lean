import Derived.Test.Qxb6616210aBits
import Derived.Deep.RegionHeld3
namespace Go.Proofs.Qxb6616210a
open Go.RowKit
set_option linter.unusedVariables false
set_option linter.unusedSimpArgs false
set_option maxRecDepth 100000

theorem bits_u8_or_and (b m : Int) (hm0 : 0 < m) (hm : m < 256) : bits .and .u8 (bits .or .u8 b m) m = m := by
  have e1 : bits .or .u8 b m = ((BitVec.ofInt 8 b ||| BitVec.ofInt 8 m).toNat : Int) := by
    show IntKind.u8.wrap ((BitVec.ofInt 8 b ||| BitVec.ofInt 8 m).toNat : Int) = _
    have := (BitVec.ofInt 8 b ||| BitVec.ofInt 8 m).isLt
    rw [IntKind.wrap_u8]; omega
  rw [e1]
  show IntKind.u8.wrap ((BitVec.ofInt 8 (((BitVec.ofInt 8 b ||| BitVec.ofInt 8 m).toNat : Nat) : Int) &&& BitVec.ofInt 8 m).toNat : Int) = m
  rw [BitVec.ofInt_natCast, BitVec.ofNat_toNat, BitVec.setWidth_eq]
  have e2 : (BitVec.ofInt 8 b ||| BitVec.ofInt 8 m) &&& BitVec.ofInt 8 m = BitVec.ofInt 8 m := by
    ext k hk
    simp only [BitVec.getElem_and, BitVec.getElem_or]
    cases (BitVec.ofInt 8 b)[k] <;> cases (BitVec.ofInt 8 m)[k] <;> rfl
  rw [e2]
  obtain ⟨k, rfl⟩ := Int.eq_ofNat_of_zero_le (show 0 ≤ m by omega)
  rw [BitVec.ofInt_natCast, BitVec.toNat_ofNat, IntKind.wrap_u8]
  omega

theorem bits_u8_zero (m : Int) : bits .and .u8 0 m = 0 := by
  show IntKind.u8.wrap ((BitVec.ofInt 8 0 &&& BitVec.ofInt 8 m).toNat : Int) = 0
  have e : BitVec.ofInt 8 0 &&& BitVec.ofInt 8 m = 0#8 := by
    ext k hk
    simp
  rw [e]; rfl

theorem maskOf_pos (i : Nat) : 0 < maskOf i ∧ maskOf i < 256 := by
  unfold maskOf
  have : i % 8 = 0 ∨ i % 8 = 1 ∨ i % 8 = 2 ∨ i % 8 = 3 ∨ i % 8 = 4 ∨ i % 8 = 5 ∨ i % 8 = 6 ∨ i % 8 = 7 := by omega
  rcases this with h | h | h | h | h | h | h | h <;> rw [h] <;> decide

/-- A row of bytes or words of the call's own. -/
structure KRow (k : IntKind) (B n : Nat) (w : World) : Prop where
  c : ∀ j, j < n → ∃ v : Int, w.cell? ⟨B, j, Option.none⟩ = some (.int k v)
  z : ∀ j, w.frozen? ⟨B, j, Option.none⟩ = false
  lt : B < w.heap.size
theorem KRow.below {k : IntKind} {B n : Nat} {w w' : World} (h : KRow k B n w) (hb : Below w.heap.size w w') : KRow k B n w' :=
  ⟨fun j hj => by obtain ⟨v, hv⟩ := h.c j hj; exact ⟨v, cell_below hb hv⟩, fun j => (hb.frozen (p := ⟨B, j, Option.none⟩) h.lt).trans (h.z j), Nat.lt_of_lt_of_le h.lt hb.size⟩
theorem KRow.set {k : IntKind} {B n : Nat} {w : World} (h : KRow k B n w) (q : Nat) (u : Int) : KRow k B n (w.setCell ⟨B, q, Option.none⟩ (.int k u)) := by
  refine ⟨fun j hj => ?_, fun j => by rw [World.frozen?_setCell]; exact h.z j, by rw [World.size_setCell]; exact h.lt⟩
  obtain ⟨v, hv⟩ := h.c j hj
  by_cases e : j = q
  · subst e; exact ⟨u, World.cell?_setCell_same _ _ _ hv⟩
  · exact ⟨v, (World.cell?_setCell_other _ _ _ _ (fun e' => e (congrArg Addr.off e').symm)).trans hv⟩
theorem KRow.other {k : IntKind} {B n : Nat} {w : World} (h : KRow k B n w) {p : Addr} (hp : p.block ≠ B) (u : Value) : KRow k B n (w.setCell p u) :=
  ⟨fun j hj => by obtain ⟨v, hv⟩ := h.c j hj; exact ⟨v, (World.cell?_setCell_other _ _ _ _ (fun e => hp (by rw [e]))).trans hv⟩, fun j => by rw [World.frozen?_setCell]; exact h.z j, by rw [World.size_setCell]; exact h.lt⟩
theorem KRow.upd {Q : Addr → Prop} {k : IntKind} {B n : Nat} {w w' : World} (h : KRow k B n w) (hu : Upd Q w w') (hq : ∀ p, Q p → p.block ≠ B) : KRow k B n w' :=
  ⟨fun j hj => by obtain ⟨v, hv⟩ := h.c j hj; exact ⟨v, (hu.cell _ h.lt (fun e => hq _ e rfl)).trans hv⟩, fun j => (hu.frozen (p := ⟨B, j, Option.none⟩) h.lt hq).trans (h.z j), Nat.lt_of_lt_of_le h.lt hu.size⟩

/-- A bitfield in memory at the start of block B. -/
structure BF (B BB FB nb nf n : Nat) (w : World) : Prop where
  c0 : w.cell? ⟨B, 0, Option.none⟩ = some (.slice (some ⟨BB, 0, Option.none⟩) nb nb)
  c1 : w.cell? ⟨B, 1, Option.none⟩ = some (.int .i64 (n : Int))
  c2 : ∃ c : Int, w.cell? ⟨B, 2, Option.none⟩ = some (.int .i64 c)
  c3 : w.cell? ⟨B, 3, Option.none⟩ = some (.slice (some ⟨FB, 0, Option.none⟩) nf nf)
  z : ∀ k, w.frozen? ⟨B, k, Option.none⟩ = false
  rb : KRow .u8 BB nb w
  rf : KRow .u64 FB nf w
  ne : BB ≠ B ∧ FB ≠ B ∧ BB ≠ FB

theorem BF.below {B BB FB nb nf n : Nat} {w w' : World} (h : BF B BB FB nb nf n w) (hb : Below w.heap.size w w') : BF B BB FB nb nf n w' := by
  obtain ⟨c, hc⟩ := h.c2
  exact ⟨cell_below hb h.c0, cell_below hb h.c1, ⟨c, cell_below hb hc⟩, cell_below hb h.c3, fun k => (hb.frozen (p := ⟨B, k, Option.none⟩) (show B < w.heap.size from World.block_lt_of_cell? w ⟨B, 2, Option.none⟩ hc)).trans (h.z k), h.rb.below hb, h.rf.below hb, h.ne⟩
theorem BF.drew {B BB FB nb nf n : Nat} {w : World} (h : BF B BB FB nb nf n w) : BF B BB FB nb nf n w.drew := h.below (Below.refl _ _).drew
theorem BF.upd {Q : Addr → Prop} {B BB FB nb nf n : Nat} {w w' : World} (h : BF B BB FB nb nf n w) (hu : Upd Q w w') (hq : ∀ p, Q p → p.block ≠ B ∧ p.block ≠ BB ∧ p.block ≠ FB) : BF B BB FB nb nf n w' := by
  obtain ⟨c, hc⟩ := h.c2
  have l := World.block_lt_of_cell? w _ h.c0
  have e : ∀ k, w'.cell? ⟨B, k, Option.none⟩ = w.cell? ⟨B, k, Option.none⟩ := fun k => hu.cell _ l (fun e => (hq _ e).1 rfl)
  exact ⟨(e 0).trans h.c0, (e 1).trans h.c1, ⟨c, (e 2).trans hc⟩, (e 3).trans h.c3, fun k => (hu.frozen (p := ⟨B, k, Option.none⟩) l (fun p hp => (hq p hp).1)).trans (h.z k), h.rb.upd hu (fun p hp => (hq p hp).2.1), h.rf.upd hu (fun p hp => (hq p hp).2.2), h.ne⟩
theorem BF.setF {B BB FB nb nf n : Nat} {w : World} (h : BF B BB FB nb nf n w) (q : Nat) (u : Int) : BF B BB FB nb nf n (w.setCell ⟨FB, q, Option.none⟩ (.int .u64 u)) := by
  obtain ⟨c, hc⟩ := h.c2
  obtain ⟨n1, n2, n3⟩ := h.ne
  have e : ∀ k, (w.setCell ⟨FB, q, Option.none⟩ (.int .u64 u)).cell? ⟨B, k, Option.none⟩ = w.cell? ⟨B, k, Option.none⟩ := fun k => World.cell?_setCell_other _ _ _ _ (fun e => n2 (congrArg Addr.block e))
  exact ⟨(e 0).trans h.c0, (e 1).trans h.c1, ⟨c, (e 2).trans hc⟩, (e 3).trans h.c3, fun k => by rw [World.frozen?_setCell]; exact h.z k, h.rb.other (Ne.symm n3) _, h.rf.set q u, h.ne⟩

set_option maxHeartbeats 2000000 in
theorem noteFull_c (B BB FB nb nf n j : Nat) (hj : j < nb) (hjf : j / 64 < nf) (hnb : nb ≤ 65536) (w : World) (h : BF B BB FB nb nf n w) :
    Calls Try.prog 44 #[.pointer (some ⟨B, 0, Option.none⟩), .int .i64 (j : Int)] w fun e w' => e = .returned (.tuple #[]) ∧ BF B BB FB nb nf n w' ∧ Upd (fun p => p.block = FB) w w' := by
  obtain ⟨c, c2⟩ := h.c2
  obtain ⟨v, cj⟩ := h.rb.c j hj
  have hq : (j : Int).tdiv 64 = ((j / 64 : Nat) : Int) := by rw [Int.tdiv_eq_ediv_of_nonneg (by omega)]; rfl
  have hr : (j : Int).tmod 64 = ((j % 64 : Nat) : Int) := by rw [Int.tmod_eq_emod_of_nonneg (by omega)]; rfl
  obtain ⟨q, hqq⟩ : ∃ q, q = j / 64 := ⟨_, rfl⟩
  obtain ⟨r, hrr⟩ : ∃ r, r = j % 64 := ⟨_, rfl⟩
  rw [← hqq] at hq hjf
  rw [← hrr] at hr
  have wq : IntKind.i64.wrap (q : Int) = (q : Int) := by rw [IntKind.wrap_i64]; omega
  have i1 : (j : Int) < (nb : Int) := by omega
  have i2 : (q : Int) < (nf : Int) := by omega
  have c0 := h.c0; have c1 := h.c1; have c3 := h.c3
  have H0 : Hid (BF B BB FB nb nf n w) := h
  have C49 : Hid (∀ w', BF B BB FB nb nf n w' → w'.cell? ⟨BB, j, Option.none⟩ = some (.int .u8 v) → Upd (fun p => p.block = FB) w w' → Calls Try.prog 49 #[.agg #[.slice (some ⟨BB, 0, Option.none⟩) nb nb, .int .i64 (n : Int), .int .i64 c, .slice (some ⟨FB, 0, Option.none⟩) nf nf], .int .i64 (j : Int)] w' fun e w'' => (∃ v : Int, e = .returned (.int .u8 v)) ∧ BF B BB FB nb nf n w'' ∧ w''.cell? ⟨BB, j, Option.none⟩ = some (.int .u8 v) ∧ Upd (fun p => p.block = FB) w w'') :=
    fun w' h1 h2 h3 => (pieceBits_c n c j BB FB nb nf w').mono fun e w'' ⟨g1, g2⟩ => ⟨g1, h1.below g2, cell_below g2 h2, h3.below g2⟩
  have hD := h.drew
  have dj : w.drew.cell? ⟨BB, j, Option.none⟩ = some (.int .u8 v) := cj
  have uD : Upd (fun p => p.block = FB) w w.drew := (Upd.refl _ _).drew
  clear h hqq hrr
  go_enter Try.func44, Try.ntmps44
  go_upto_region 1 with fail
  go_cut [20] (fun s20 wx => ∃ t : Bool, s20 = .bool t ∧ Aside (BF B BB FB nb nf n wx ∧ Upd (fun p => p.block = FB) w wx))
  case first =>
    go_region_with (first | (go_at_call 49; refine (C49.out _ (by assumption) (by assumption) (by assumption)).mono ?_; rintro e w5 ⟨⟨x, rfl⟩, hS5, hc5, hU5⟩; have x0 := hS5.c0))
    all_goals (go_wp2_with fail; go_meet)
    all_goals exact ⟨_, rfl, hS5, hU5⟩
  case rest =>
    obtain ⟨t, rfl, HC⟩ := hcut
    clear c0 c1 c2 c3 cj hD dj uD C49
    have c3 := HC.out.1.c3
    obtain ⟨u, cq⟩ := HC.out.1.rf.c q hjf
    have zq := HC.out.1.rf.z q
    cases t
    · go_wp2_with fail
      simp [bodyPost, results, Try.results44, go_sem]
      exact ⟨HC.out.1.setF q _, Upd.set (Q := fun p => p.block = FB) (p := ⟨FB, q, Option.none⟩) HC.out.2 rfl _⟩
    · go_wp2_with fail
      simp [bodyPost, results, Try.results44, go_sem]
      exact ⟨HC.out.1.setF q _, Upd.set (Q := fun p => p.block = FB) (p := ⟨FB, q, Option.none⟩) HC.out.2 rfl _⟩

end Go.Proofs.Qxb6616210a
