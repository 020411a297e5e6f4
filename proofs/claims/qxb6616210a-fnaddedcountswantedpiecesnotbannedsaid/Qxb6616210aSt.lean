import Derived.Test.Qxb6616210aWant
import Derived.Test.Qxb6616210aVRow
namespace Go.Proofs.Qxb6616210a
open Go.RowKit
set_option linter.unusedVariables false
set_option linter.unusedSimpArgs false
set_option maxRecDepth 100000

/-- What the main loop never writes: the table of bans, the picker's own block, the row of peers, the maps. -/
structure Fx (IB K HB HF PS RB nb nf n m nn : Nat) (mb pb : Nat → Nat) (bf : Nat → Bool) (w : World) : Prop where
  i : VRow IB (m * n) (fun x => .bool (bf x)) w
  k : PickAt K HB HF nb nf n RB w
  p : VRow PS m (fun u => .pointer (some ⟨pb u, 0, Option.none⟩)) w
  b : ∀ u, u < m → BanM (mb u) nn n (fun x => bf (u * n + x)) w

/-- Each block has a tag: by it the blocks are told apart. -/
structure Tags (τ : Nat → Nat) (N IB K HB PS EB WB CB RB Q P OB PB GB SB m : Nat) (mb pb bb fb : Nat → Nat) : Prop where
  i : τ IB = 1
  k : τ K = 2
  h : τ HB = 2
  p : τ PS = 3
  e : τ EB = 5
  w : τ WB = 6
  c : τ CB = 7
  r : τ RB = 8 ∧ τ Q = 8 ∧ τ P = 8 ∧ τ OB = 8 ∧ τ PB = 8 ∧ τ GB = 8 ∧ τ SB = 8
  mm : ∀ u, u < m → τ (mb u) = 20 + u
  q : ∀ u, u < m → τ (pb u) = 50 + u ∧ τ (bb u) = 50 + u ∧ τ (fb u) = 50 + u
  o : ∀ z, z < N → τ z = 0

/-- Tags that the main loop writes. -/
def Free (t : Nat) : Prop := 5 ≤ t ∧ (t < 20 ∨ 50 ≤ t)

theorem ne_tag {τ : Nat → Nat} {a b : Nat} (h : τ a ≠ τ b) : a ≠ b := fun e => h (by rw [e])

section
variable {τ : Nat → Nat} {N IB K HB HF PS EB WB CB RB Q P OB PB GB SB nb nf n m nn : Nat} {mb pb bb fb : Nat → Nat} {bf : Nat → Bool} {w w' : World}

theorem Fx.below (h : Fx IB K HB HF PS RB nb nf n m nn mb pb bf w) (hb : Below w.heap.size w w') : Fx IB K HB HF PS RB nb nf n m nn mb pb bf w' :=
  ⟨h.i.below hb, h.k.below hb, h.p.below hb, fun u hu => (h.b u hu).below hb⟩
theorem Fx.upd {R : Addr → Prop} (h : Fx IB K HB HF PS RB nb nf n m nn mb pb bf w) (hm : m ≤ 16) (t : Tags τ N IB K HB PS EB WB CB RB Q P OB PB GB SB m mb pb bb fb) (hu : Upd R w w') (hR : ∀ p, R p → Free (τ p.block)) : Fx IB K HB HF PS RB nb nf n m nn mb pb bf w' := by
  have key : ∀ z, (τ z < 5 ∨ (20 ≤ τ z ∧ τ z < 50)) → ∀ p, R p → p.block ≠ z := by
    intro z hz p hp e
    have := hR p hp
    unfold Free at this
    rw [e] at this
    omega
  have t1 := t.i; have t2 := t.k; have t3 := t.h; have t4 := t.p
  refine ⟨h.i.upd hu (key _ (by omega)), h.k.upd hu (fun p hp => ⟨key _ (by omega) p hp, key _ (by omega) p hp⟩), h.p.upd hu (key _ (by omega)), fun u hu' => (h.b u hu').upd hu (key _ ?_)⟩
  have := t.mm u hu'
  omega
end

/-- The state of the main loop: rows of seen, wanted and counts; the peers' own counts pw. -/
structure StD (τ : Nat → Nat) (IB K HB HF PS EB WB CB RB Q P OB PB GB SB nb nf n m nn L C : Nat) (mb pb bb fb : Nat → Nat) (bf sf : Nat → Bool) (wt pw cnt order pos group start : Nat → Nat) (w0 w : World) : Prop where
  t : Tags τ w0.heap.size IB K HB PS EB WB CB RB Q P OB PB GB SB m mb pb bb fb
  f : Fx IB K HB HF PS RB nb nf n m nn mb pb bf w
  r : RarH RB Q P OB PB GB SB n L C order pos group start w
  v : Inv n L order pos group start
  pe : ∀ u, u < m → PeerAt (pb u) (bb u) (fb u) nb nf n (mb u) (pw u) w
  e : VRow EB (m * n) (fun x => .bool (sf x)) w
  wr : NRow WB m wt w
  c : NRow CB n cnt w
  bl : Below w0.heap.size w0 w

section
variable {τ : Nat → Nat} {IB K HB HF PS EB WB CB RB Q P OB PB GB SB nb nf n m nn L C : Nat} {mb pb bb fb : Nat → Nat} {bf sf : Nat → Bool} {wt pw cnt order pos group start : Nat → Nat} {w0 w w' : World}

theorem StD.below (h : StD τ IB K HB HF PS EB WB CB RB Q P OB PB GB SB nb nf n m nn L C mb pb bb fb bf sf wt pw cnt order pos group start w0 w) (hb : Below w.heap.size w w') : StD τ IB K HB HF PS EB WB CB RB Q P OB PB GB SB nb nf n m nn L C mb pb bb fb bf sf wt pw cnt order pos group start w0 w' :=
  ⟨h.t, h.f.below hb, h.r.below hb, h.v, fun u hu => (h.pe u hu).below hb, h.e.below hb, h.wr.below hb, h.c.below hb, h.bl.trans (hb.mono h.bl.size)⟩

theorem StD.lt (h : StD τ IB K HB HF PS EB WB CB RB Q P OB PB GB SB nb nf n m nn L C mb pb bb fb bf sf wt pw cnt order pos group start w0 w) : (IB < w.heap.size ∧ K < w.heap.size ∧ HB < w.heap.size ∧ PS < w.heap.size ∧ EB < w.heap.size ∧ WB < w.heap.size ∧ CB < w.heap.size) ∧ (∀ u, u < m → mb u < w.heap.size ∧ pb u < w.heap.size ∧ bb u < w.heap.size ∧ fb u < w.heap.size) :=
  ⟨⟨h.f.i.lt, h.f.k.klt, h.f.k.lt, h.f.p.lt, h.e.lt, h.wr.lt, h.c.lt⟩, fun u hu => ⟨(h.f.b u hu).lt, (h.pe u hu).lt⟩⟩

/-- A write of tag t keeps what has another tag. -/
theorem StD.low {R : Addr → Prop} (h : StD τ IB K HB HF PS EB WB CB RB Q P OB PB GB SB nb nf n m nn L C mb pb bb fb bf sf wt pw cnt order pos group start w0 w) (hu : Upd R w w') (hR : ∀ p, R p → Free (τ p.block)) : Below w0.heap.size w0 w' := by
  refine h.bl.trans (hu.low _ (fun p hp => ?_) h.bl.size)
  rcases Nat.lt_or_ge p.block w0.heap.size with k | k
  · have := h.t.o _ k
    have := hR p hp
    unfold Free at this
    omega
  · exact k

theorem offTag (t : Tags τ w0.heap.size IB K HB PS EB WB CB RB Q P OB PB GB SB m mb pb bb fb) {z : Nat} (hz : τ z ≠ 8) : Off P RB OB PB GB SB Q z := by
  obtain ⟨r1, r2, r3, r4, r5, r6, r7⟩ := t.r
  exact ⟨ne_tag (τ := τ) (by omega), ne_tag (τ := τ) (by omega), ne_tag (τ := τ) (by omega), ne_tag (τ := τ) (by omega), ne_tag (τ := τ) (by omega), ne_tag (τ := τ) (by omega), ne_tag (τ := τ) (by omega)⟩

theorem StD.setE (h : StD τ IB K HB HF PS EB WB CB RB Q P OB PB GB SB nb nf n m nn L C mb pb bb fb bf sf wt pw cnt order pos group start w0 w) (hm : m ≤ 16) {x : Nat} (hx : x < m * n) : StD τ IB K HB HF PS EB WB CB RB Q P OB PB GB SB nb nf n m nn L C mb pb bb fb bf (upd sf x true) wt pw cnt order pos group start w0 (w.setCell ⟨EB, x, Option.none⟩ (.bool true)) := by
  have hu : Upd (fun q => q.block = EB) w (w.setCell ⟨EB, x, Option.none⟩ (.bool true)) := Upd.set (Q := fun q => q.block = EB) (p := ⟨EB, x, Option.none⟩) (Upd.refl _ w) rfl _
  have te := h.t.e
  have hR : ∀ p : Addr, p.block = EB → Free (τ p.block) := fun p hp => by rw [hp]; unfold Free; omega
  have ne : ∀ z, τ z ≠ 5 → ∀ p : Addr, p.block = EB → p.block ≠ z := fun z hz p hp e => hz (by rw [← e, hp]; exact te)
  refine ⟨h.t, h.f.upd hm h.t hu hR, h.r.upd hu (fun p hp => offTag h.t (by rw [hp]; omega)), h.v, fun u hu' => (h.pe u hu').upd hu (fun p hp => ?_), (h.e.set hx _).congr (fun j hj => ?_), h.wr.upd hu (ne _ (by rw [h.t.w]; omega)), h.c.upd hu (ne _ (by rw [h.t.c]; omega)), h.low hu hR⟩
  · obtain ⟨q1, q2, q3⟩ := h.t.q u hu'
    exact ⟨ne _ (by omega) p hp, ne _ (by omega) p hp, ne _ (by omega) p hp⟩
  · by_cases e : j = x
    · subst e; rw [upd_same, upd_same]
    · rw [upd_other _ _ _ e, upd_other _ _ _ e]

theorem StD.setC (h : StD τ IB K HB HF PS EB WB CB RB Q P OB PB GB SB nb nf n m nn L C mb pb bb fb bf sf wt pw cnt order pos group start w0 w) (hm : m ≤ 16) {x : Nat} (hx : x < n) (v : Nat) : StD τ IB K HB HF PS EB WB CB RB Q P OB PB GB SB nb nf n m nn L C mb pb bb fb bf sf wt pw (upd cnt x v) order pos group start w0 (w.setCell ⟨CB, x, Option.none⟩ (.int .i64 (v : Int))) := by
  have hu : Upd (fun q => q.block = CB) w (w.setCell ⟨CB, x, Option.none⟩ (.int .i64 (v : Int))) := Upd.set (Q := fun q => q.block = CB) (p := ⟨CB, x, Option.none⟩) (Upd.refl _ w) rfl _
  have te := h.t.c
  have hR : ∀ p : Addr, p.block = CB → Free (τ p.block) := fun p hp => by rw [hp]; unfold Free; omega
  have ne : ∀ z, τ z ≠ 7 → ∀ p : Addr, p.block = CB → p.block ≠ z := fun z hz p hp e => hz (by rw [← e, hp]; exact te)
  refine ⟨h.t, h.f.upd hm h.t hu hR, h.r.upd hu (fun p hp => offTag h.t (by rw [hp]; omega)), h.v, fun u hu' => (h.pe u hu').upd hu (fun p hp => ?_), h.e.upd hu (ne _ (by rw [h.t.e]; omega)), h.wr.upd hu (ne _ (by rw [h.t.w]; omega)), h.c.set hx v, h.low hu hR⟩
  obtain ⟨q1, q2, q3⟩ := h.t.q u hu'
  exact ⟨ne _ (by omega) p hp, ne _ (by omega) p hp, ne _ (by omega) p hp⟩

theorem StD.setWt (h : StD τ IB K HB HF PS EB WB CB RB Q P OB PB GB SB nb nf n m nn L C mb pb bb fb bf sf wt pw cnt order pos group start w0 w) (hm : m ≤ 16) {x : Nat} (hx : x < m) (v : Nat) : StD τ IB K HB HF PS EB WB CB RB Q P OB PB GB SB nb nf n m nn L C mb pb bb fb bf sf (upd wt x v) pw cnt order pos group start w0 (w.setCell ⟨WB, x, Option.none⟩ (.int .i64 (v : Int))) := by
  have hu : Upd (fun q => q.block = WB) w (w.setCell ⟨WB, x, Option.none⟩ (.int .i64 (v : Int))) := Upd.set (Q := fun q => q.block = WB) (p := ⟨WB, x, Option.none⟩) (Upd.refl _ w) rfl _
  have te := h.t.w
  have hR : ∀ p : Addr, p.block = WB → Free (τ p.block) := fun p hp => by rw [hp]; unfold Free; omega
  have ne : ∀ z, τ z ≠ 6 → ∀ p : Addr, p.block = WB → p.block ≠ z := fun z hz p hp e => hz (by rw [← e, hp]; exact te)
  refine ⟨h.t, h.f.upd hm h.t hu hR, h.r.upd hu (fun p hp => offTag h.t (by rw [hp]; omega)), h.v, fun u hu' => (h.pe u hu').upd hu (fun p hp => ?_), h.e.upd hu (ne _ (by rw [h.t.e]; omega)), h.wr.set hx v, h.c.upd hu (ne _ (by rw [h.t.c]; omega)), h.low hu hR⟩
  obtain ⟨q1, q2, q3⟩ := h.t.q u hu'
  exact ⟨ne _ (by omega) p hp, ne _ (by omega) p hp, ne _ (by omega) p hp⟩

theorem StD.setHas (h : StD τ IB K HB HF PS EB WB CB RB Q P OB PB GB SB nb nf n m nn L C mb pb bb fb bf sf wt pw cnt order pos group start w0 w) (hm : m ≤ 16) {u : Nat} (hu0 : u < m) (hp : PeerAt (pb u) (bb u) (fb u) nb nf n (mb u) (pw u) w') (hu : Upd (SetQ (pb u) (bb u) (fb u)) w w') : StD τ IB K HB HF PS EB WB CB RB Q P OB PB GB SB nb nf n m nn L C mb pb bb fb bf sf wt pw cnt order pos group start w0 w' := by
  have te := h.t.q u hu0
  have hT : ∀ p, SetQ (pb u) (bb u) (fb u) p → τ p.block = 50 + u := by
    rintro p (e | e | e)
    · rw [e]; exact te.1
    · rw [e]; exact te.2.1
    · rw [e]; exact te.2.2
  have hR : ∀ p, SetQ (pb u) (bb u) (fb u) p → Free (τ p.block) := fun p hp => by rw [hT p hp]; unfold Free; omega
  have ne : ∀ z, τ z ≠ 50 + u → ∀ p, SetQ (pb u) (bb u) (fb u) p → p.block ≠ z := fun z hz p hp e => hz (by rw [← e]; exact hT p hp)
  refine ⟨h.t, h.f.upd hm h.t hu hR, h.r.upd hu (fun p hp => offTag h.t (by rw [hT p hp]; omega)), h.v, fun v hv => ?_, h.e.upd hu (ne _ (by rw [h.t.e]; omega)), h.wr.upd hu (ne _ (by rw [h.t.w]; omega)), h.c.upd hu (ne _ (by rw [h.t.c]; omega)), h.low hu hR⟩
  by_cases e : v = u
  · subst e; exact hp
  · obtain ⟨q1, q2, q3⟩ := h.t.q v hv
    exact (h.pe v hv).upd hu (fun p hp => ⟨ne _ (by omega) p hp, ne _ (by omega) p hp, ne _ (by omega) p hp⟩)

theorem StD.added (h : StD τ IB K HB HF PS EB WB CB RB Q P OB PB GB SB nb nf n m nn L C mb pb bb fb bf sf wt pw cnt order pos group start w0 w) (hm : m ≤ 16) {u i x' : Nat} (hu0 : u < m) (hi : i < n) (hr : RetAdded RB Q P OB PB GB SB n L group i (pb u) (bb u) (fb u) nb nf (mb u) x' w w') :
    ∃ τ' SB' L' C' order' pos' start', StD τ' IB K HB HF PS EB WB CB RB Q P OB PB GB SB' nb nf n m nn L' C' mb pb bb fb bf sf wt (upd pw u x') cnt order' pos' (upd group i (group i + 1)) start' w0 w' ∧ L' ≤ L + 1 ∧ L ≤ L' := by
  obtain ⟨SB', L', C', order', pos', start', a1, a2, a3, a4, a5, a6⟩ := hr
  have te := h.t.q u hu0
  obtain ⟨r1, r2, r3, r4, r5, r6, r7⟩ := h.t.r
  have hT : ∀ p, AddQ RB P OB PB GB SB (pb u) p → τ p.block = 8 ∨ τ p.block = 50 + u := by
    rintro p (e | e | e | e | e | e | e)
    · rw [e]; exact .inl r1
    · rw [e]; exact .inl r3
    · rw [e]; exact .inl r4
    · rw [e]; exact .inl r5
    · rw [e]; exact .inl r6
    · rw [e]; exact .inl r7
    · rw [e]; exact .inr te.1
  have hR : ∀ p, AddQ RB P OB PB GB SB (pb u) p → Free (τ p.block) := fun p hp => by have := hT p hp; unfold Free; omega
  have ne : ∀ z, τ z ≠ 50 + u → τ z ≠ 8 → ∀ p, AddQ RB P OB PB GB SB (pb u) p → p.block ≠ z := fun z hz hz' p hp e => by have := hT p hp; rw [e] at this; omega
  have keep : ∀ z, τ z ≠ 8 → z < w.heap.size → upd τ SB' 8 z = τ z := by
    intro z hz hzl
    refine upd_other _ _ _ ?_
    rcases a4 with e | e
    · rw [e]; exact ne_tag (τ := τ) (by omega)
    · omega
  have keep8 : ∀ z, τ z = 8 → upd τ SB' 8 z = 8 := by
    intro z hz
    by_cases e : z = SB'
    · rw [e, upd_same]
    · rw [upd_other _ _ _ e]; exact hz
  obtain ⟨⟨l1, l2, l3, l4, l5, l6, l7⟩, lu⟩ := h.lt
  have T := h.t
  have tg : Tags (upd τ SB' 8) w0.heap.size IB K HB PS EB WB CB RB Q P OB PB GB SB' m mb pb bb fb := by
    refine ⟨?_, ?_, ?_, ?_, ?_, ?_, ?_, ⟨keep8 _ r1, keep8 _ r2, keep8 _ r3, keep8 _ r4, keep8 _ r5, keep8 _ r6, upd_same _ _ _⟩, fun v hv => ?_, fun v hv => ?_, fun z hz => ?_⟩
    · rw [keep _ (by rw [T.i]; omega) l1]; exact T.i
    · rw [keep _ (by rw [T.k]; omega) l2]; exact T.k
    · rw [keep _ (by rw [T.h]; omega) l3]; exact T.h
    · rw [keep _ (by rw [T.p]; omega) l4]; exact T.p
    · rw [keep _ (by rw [T.e]; omega) l5]; exact T.e
    · rw [keep _ (by rw [T.w]; omega) l6]; exact T.w
    · rw [keep _ (by rw [T.c]; omega) l7]; exact T.c
    · rw [keep _ (by rw [T.mm v hv]; omega) (lu v hv).1]; exact T.mm v hv
    · obtain ⟨q1, q2, q3⟩ := T.q v hv
      obtain ⟨_, s1, s2, s3⟩ := lu v hv
      rw [keep _ (by omega) s1, keep _ (by omega) s2, keep _ (by omega) s3]
      exact ⟨q1, q2, q3⟩
    · have := h.bl.size
      rw [keep _ (by rw [T.o z hz]; omega) (by omega)]; exact T.o z hz
  have inv : Inv n L' order' pos' (upd group i (group i + 1)) start' := by
    refine ⟨a2, ?_⟩
    by_cases e : group i + 2 = L
    · rw [if_pos e] at a3
      exact .inr ⟨i, hi, by rw [upd_same]; omega⟩
    · rw [if_neg e] at a3
      subst a3
      rcases h.v.t with k | ⟨j, hj, k⟩
      · exact .inl k
      · exact .inr ⟨j, hj, by rw [upd_other _ _ _ (fun e' => e (by rw [← e']; exact k))]; exact k⟩
  refine ⟨upd τ SB' 8, SB', L', C', order', pos', start', ⟨tg, h.f.upd hm h.t a6 hR, a1, inv, fun v hv => ?_, h.e.upd a6 (ne _ (by rw [T.e]; omega) (by rw [T.e]; omega)), h.wr.upd a6 (ne _ (by rw [T.w]; omega) (by rw [T.w]; omega)), h.c.upd a6 (ne _ (by rw [T.c]; omega) (by rw [T.c]; omega)), h.low a6 hR⟩, ?_, ?_⟩
  · by_cases e : v = u
    · subst e; rw [upd_same]; exact a5
    · rw [upd_other _ _ _ e]
      obtain ⟨q1, q2, q3⟩ := T.q v hv
      exact (h.pe v hv).upd a6 (fun p hp => ⟨ne _ (by omega) (by omega) p hp, ne _ (by omega) (by omega) p hp, ne _ (by omega) (by omega) p hp⟩)
  · rw [a3]; split <;> omega
  · rw [a3]; split <;> omega
end

end Go.Proofs.Qxb6616210a
