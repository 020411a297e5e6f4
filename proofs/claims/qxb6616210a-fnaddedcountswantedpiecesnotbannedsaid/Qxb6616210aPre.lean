import Derived.Test.Qxb6616210aSt
namespace Go.Proofs.Qxb6616210a
open Go.RowKit
set_option linter.unusedVariables false
set_option linter.unusedSimpArgs false
set_option maxRecDepth 100000

theorem blk_new (w : World) (o : Obj) : Below w.heap.size w (w.alloc o) := (Below.refl _ _).alloc (Nat.le_refl _) _

/-- Tags with a tag for whatever is new. -/
def tagNew (τ : Nat → Nat) (s t : Nat) : Nat → Nat := fun z => if z < s then τ z else t
theorem tagNew_old {τ : Nat → Nat} {s t z : Nat} (h : z < s) : tagNew τ s t z = τ z := if_pos h
theorem tagNew_new {τ : Nat → Nat} {s t z : Nat} (h : s ≤ z) : tagNew τ s t z = t := if_neg (by omega)

theorem flat_inj {n u v x y : Nat} (hx : x < n) (hy : y < n) (h : u * n + x = v * n + y) : u = v ∧ x = y := by
  have h1 : (u * n + x) / n = u := by rw [Nat.mul_comm, Nat.mul_add_div (by omega), Nat.div_eq_of_lt hx]; omega
  have h2 : (v * n + y) / n = v := by rw [Nat.mul_comm, Nat.mul_add_div (by omega), Nat.div_eq_of_lt hy]; omega
  have e : u = v := by rw [← h1, ← h2, h]
  subst e
  exact ⟨rfl, by omega⟩
theorem flat_lt {n m u x : Nat} (hu : u < m) (hx : x < n) : u * n + x < m * n := by
  have : (u + 1) * n ≤ m * n := Nat.mul_le_mul_right n hu
  rw [Nat.succ_mul] at this
  omega

/-- While the maps are made. -/
structure BnS (τ : Nat → Nat) (MB m n k : Nat) (mb : Nat → Nat) (w0 w : World) : Prop where
  r : VRow MB m (fun u => if u < k then .map (some (mb u)) else .map Option.none) w
  b : ∀ u, u < k → BanM (mb u) 0 n (fun _ => false) w
  tm : τ MB = 9
  tb : ∀ u, u < k → τ (mb u) = 20 + u
  o : ∀ z, z < w0.heap.size → τ z = 0
  bl : Below w0.heap.size w0 w

theorem BnS.start {m n : Nat} {ob : Obj} (hob : MadeOf (.map Option.none) m ob) (w0 : World) : BnS (tagNew (fun _ => 0) w0.heap.size 9) w0.heap.size m n 0 (fun _ => 0) w0 (w0.alloc ob) :=
  ⟨(VRow.made hob w0).congr (fun u hu => if_neg (by omega)), fun u hu => by omega, tagNew_new (Nat.le_refl _), fun u hu => by omega, fun z hz => tagNew_old hz, blk_new _ _⟩

theorem BnS.step {τ : Nat → Nat} {MB m n k : Nat} {mb : Nat → Nat} {w0 w : World} (h : BnS τ MB m n k mb w0 w) (hk : k < m) :
    ∃ τ', BnS τ' MB m n (k + 1) (upd mb k w.heap.size) w0 ((w.alloc (.map #[] 0)).setCell ⟨MB, k, Option.none⟩ (.map (some w.heap.size))) := by
  have b := blk_new w (.map #[] 0)
  have lM := h.r.lt
  have lb := fun u hu => (h.b u hu).lt
  have sz := h.bl.size
  refine ⟨tagNew τ w.heap.size (20 + k), ((h.r.below b).set hk _).congr (fun u hu => ?_), fun u hu => ?_, by rw [tagNew_old lM]; exact h.tm, fun u hu => ?_, fun z hz => by rw [tagNew_old (by omega)]; exact h.o z hz, ?_⟩
  · by_cases e : u = k
    · subst e; rw [upd_same, upd_same, if_pos (by omega)]
    · rw [upd_other _ _ _ e, upd_other _ _ _ e]
      by_cases e2 : u < k
      · rw [if_pos e2, if_pos (by omega)]
      · rw [if_neg e2, if_neg (by omega)]
  · by_cases e : u = k
    · subst e
      rw [upd_same]
      exact (BanM.made w n).other (p := ⟨MB, u, Option.none⟩) (by show MB ≠ w.heap.size; omega) _
    · rw [upd_other _ _ _ e]
      have hu' : u < k := by omega
      refine ((h.b u hu').below b).other (p := ⟨MB, k, Option.none⟩) ?_ _
      refine ne_tag (τ := τ) ?_
      show τ MB ≠ _
      rw [h.tm, h.tb u hu']; omega
  · by_cases e : u = k
    · subst e; rw [upd_same]; exact tagNew_new (Nat.le_refl _)
    · rw [upd_other _ _ _ e, tagNew_old (lb u (by omega))]; exact h.tb u (by omega)
  · refine (h.bl.trans (b.mono sz)).setCell (p := ⟨MB, k, Option.none⟩) ?_ _
    rcases Nat.lt_or_ge MB w0.heap.size with k' | k'
    · have := h.o _ k'; have := h.tm; omega
    · exact k'

theorem below_turned {M N : Nat} {w w' : World} (h : Turned M w w') (hN : N ≤ M) : Below N w w' := by
  obtain ⟨es, clock, es', clock', hb, rfl⟩ := h
  exact ⟨rfl, rfl, rfl, by simp [Go.ChangeMaps.setBlock], fun k hk => Go.ChangeMaps.heap_setBlock_other hb _ (by omega)⟩

/-- The bans: their maps and the table. -/
structure BnD (τ : Nat → Nat) (MB IB m n nn : Nat) (mb : Nat → Nat) (bf : Nat → Bool) (w0 w : World) : Prop where
  r : VRow MB m (fun u => .map (some (mb u))) w
  b : ∀ u, u < m → BanM (mb u) nn n (fun x => bf (u * n + x)) w
  i : VRow IB (m * n) (fun x => .bool (bf x)) w
  tm : τ MB = 9
  ti : τ IB = 1
  tb : ∀ u, u < m → τ (mb u) = 20 + u
  o : ∀ z, z < w0.heap.size → τ z = 0
  bl : Below w0.heap.size w0 w

section
variable {τ : Nat → Nat} {MB IB m n nn : Nat} {mb : Nat → Nat} {bf : Nat → Bool} {w0 w w' : World}
theorem BnD.below (h : BnD τ MB IB m n nn mb bf w0 w) (hb : Below w.heap.size w w') : BnD τ MB IB m n nn mb bf w0 w' :=
  ⟨h.r.below hb, fun u hu => (h.b u hu).below hb, h.i.below hb, h.tm, h.ti, h.tb, h.o, h.bl.trans (hb.mono h.bl.size)⟩
theorem BnD.tags {τ' : Nat → Nat} (h : BnD τ MB IB m n nn mb bf w0 w) (e : ∀ z, z < w.heap.size → τ' z = τ z) : BnD τ' MB IB m n nn mb bf w0 w :=
  ⟨h.r, h.b, h.i, by rw [e _ h.r.lt]; exact h.tm, by rw [e _ h.i.lt]; exact h.ti, fun u hu => by rw [e _ (h.b u hu).lt]; exact h.tb u hu, fun z hz => by rw [e z (Nat.lt_of_lt_of_le hz h.bl.size)]; exact h.o z hz, h.bl⟩

theorem BnS.made (h : BnS τ MB m n m mb w0 w) {ob : Obj} (hob : MadeOf (.bool false) (m * n) ob) : BnD (tagNew τ w.heap.size 1) MB w.heap.size m n 0 mb (fun _ => false) w0 (w.alloc ob) := by
  have b := blk_new w ob
  have sz := h.bl.size
  exact ⟨(h.r.below b).congr (fun u hu => by rw [if_pos hu]), fun u hu => (h.b u hu).below b, VRow.made hob w, by rw [tagNew_old h.r.lt]; exact h.tm, tagNew_new (Nat.le_refl _), fun u hu => by rw [tagNew_old (h.b u hu).lt]; exact h.tb u hu, fun z hz => by rw [tagNew_old (by omega)]; exact h.o z hz, h.bl.trans (b.mono sz)⟩

/-- One ban more: the map. -/
theorem BnD.turn (h : BnD τ MB IB m n nn mb bf w0 w) {u i : Nat} (hu : u < m) (hi : i < n) (hb : BanM (mb u) (nn + 1) n (upd (fun x => bf (u * n + x)) i true) w') (ht : Turned (mb u) w w') :
    VRow MB m (fun u => .map (some (mb u))) w' ∧ VRow IB (m * n) (fun x => .bool (bf x)) w' ∧ (∀ v, v < m → BanM (mb v) (nn + 1) n (fun x => upd bf (u * n + i) true (v * n + x)) w') ∧ Below w0.heap.size w0 w' := by
  obtain ⟨t1, t2, t3, t4⟩ := heapTurned ht
  refine ⟨⟨fun j hj => (t3 _).trans (h.r.c j hj), fun j => (t4 _).trans (h.r.z j), by rw [t1]; exact h.r.lt⟩, ⟨fun j hj => (t3 _).trans (h.i.c j hj), fun j => (t4 _).trans (h.i.z j), by rw [t1]; exact h.i.lt⟩, fun v hv => ?_, ?_⟩
  · by_cases e : v = u
    · subst e
      refine hb.congr (fun x hx => ?_)
      by_cases e2 : x = i
      · subst e2; rw [upd_same, upd_same]
      · rw [upd_other _ _ _ e2, upd_other _ _ _ (fun e3 => e2 (flat_inj hx hi e3).2)]
    · refine (((h.b v hv).kept (t2 _ (ne_tag (τ := τ) (by rw [h.tb v hv, h.tb u hu]; omega)))).mono (by omega)).congr (fun x hx => ?_)
      exact upd_other _ _ _ (fun e3 => e (flat_inj hx hi e3).1)
  · have hge : w0.heap.size ≤ mb u := by
      rcases Nat.lt_or_ge (mb u) w0.heap.size with k' | k'
      · have := h.o _ k'; have := h.tb u hu; omega
      · exact k'
    refine h.bl.trans ?_
    exact below_turned ht hge

/-- .. and the table. -/
theorem BnD.put (h : BnD τ MB IB m n nn mb bf w0 w) {u i : Nat} (hu : u < m) (hi : i < n) (hr : VRow MB m (fun u => .map (some (mb u))) w') (hv : VRow IB (m * n) (fun x => .bool (bf x)) w') (hm : ∀ v, v < m → BanM (mb v) (nn + 1) n (fun x => upd bf (u * n + i) true (v * n + x)) w') (hb : Below w0.heap.size w0 w') :
    BnD τ MB IB m n (nn + 1) mb (upd bf (u * n + i) true) w0 (w'.setCell ⟨IB, u * n + i, Option.none⟩ (.bool true)) := by
  refine ⟨hr.other (p := ⟨IB, u * n + i, Option.none⟩) (ne_tag (τ := τ) (by show τ IB ≠ _; rw [h.ti, h.tm]; omega)) _, fun v hv' => (hm v hv').other (p := ⟨IB, u * n + i, Option.none⟩) (ne_tag (τ := τ) (by show τ IB ≠ _; rw [h.ti, h.tb v hv']; omega)) _, (hv.set (flat_lt hu hi) _).congr (fun x hx => ?_), h.tm, h.ti, h.tb, h.o, hb.setCell (p := ⟨IB, u * n + i, Option.none⟩) ?_ _⟩
  · by_cases e : x = u * n + i
    · rw [e, upd_same, upd_same]
    · rw [upd_other _ _ _ e, upd_other _ _ _ e]
  · rcases Nat.lt_or_ge IB w0.heap.size with k' | k'
    · have := h.o _ k'; have := h.ti; omega
    · exact k'
end

/-- While the peers are made. -/
structure PeD (τ : Nat → Nat) (MB IB K HB HF PS RB Q P OB PB GB SB nb nf n m nn k : Nat) (mb pb bb fb : Nat → Nat) (bf : Nat → Bool) (order pos group : Nat → Nat) (w0 w : World) : Prop where
  b : BnD τ MB IB m n nn mb bf w0 w
  pk : PickAt K HB HF nb nf n RB w
  r : RarH RB Q P OB PB GB SB n 3 3 order pos group (st0 n) w
  v : Inv n 3 order pos group (st0 n)
  g : ∀ j, j < n → group j = 1
  p : VRow PS m (fun u => if u < k then .pointer (some ⟨pb u, 0, Option.none⟩) else .pointer Option.none) w
  pe : ∀ u, u < k → PeerAt (pb u) (bb u) (fb u) nb nf n (mb u) 0 w
  tk : τ K = 2
  th : τ HB = 2
  tp : τ PS = 3
  tr : τ RB = 8 ∧ τ Q = 8 ∧ τ P = 8 ∧ τ OB = 8 ∧ τ PB = 8 ∧ τ GB = 8 ∧ τ SB = 8
  tq : ∀ u, u < k → τ (pb u) = 50 + u ∧ τ (bb u) = 50 + u ∧ τ (fb u) = 50 + u

section
variable {τ : Nat → Nat} {MB IB K HB HF PS RB Q P OB PB GB SB nb nf n m nn k : Nat} {mb pb bb fb : Nat → Nat} {bf : Nat → Bool} {order pos group : Nat → Nat} {w0 w w' : World}

theorem RarH.lt {L C : Nat} {start : Nat → Nat} (h : RarH RB Q P OB PB GB SB n L C order pos group start w) : RB < w.heap.size ∧ Q < w.heap.size ∧ P < w.heap.size ∧ OB < w.heap.size ∧ PB < w.heap.size ∧ GB < w.heap.size ∧ SB < w.heap.size := by
  obtain ⟨y, hy⟩ := h.y
  exact ⟨World.block_lt_of_cell? w _ h.r.q, World.block_lt_of_cell? w _ h.d, hy.block, h.r.ro.lt, h.r.rp.lt, h.r.rg.lt, h.r.rs.lt⟩

/-- Behind ZZnewPicker and the row of peers. -/
theorem PeD.start (h : BnD τ MB IB m n nn mb bf w0 w) {e : Ending} (hr : RetPicker w nb nf n e w') {op : Obj} (hop : MadeOf (.pointer Option.none) m op) :
    ∃ τ' K HB HF RB Q P OB PB GB SB order pos group, e = .returned (.pointer (some ⟨K, 0, Option.none⟩)) ∧ PeD τ' MB IB K HB HF w'.heap.size RB Q P OB PB GB SB nb nf n m nn 0 mb (fun _ => 0) (fun _ => 0) (fun _ => 0) bf order pos group w0 (w'.alloc op) := by
  obtain ⟨K, HB, HF, RB, Q, P, OB, PB, GB, SB, order, pos, group, he, h1, h2, h3, h4, ⟨g1, g2, g3, g4, g5, g6, g7, g8, g9⟩, o1, o2, hb⟩ := hr
  have b := blk_new w' op
  have lk := h1.klt; have lh := h1.lt
  obtain ⟨l1, l2, l3, l4, l5, l6, l7⟩ := h2.lt
  have sz := hb.size
  refine ⟨fun z => if z < w.heap.size then τ z else if z < w'.heap.size then (if z = K ∨ z = HB then 2 else 8) else 3, K, HB, HF, RB, Q, P, OB, PB, GB, SB, order, pos, group, he, ?_⟩
  obtain ⟨a1, a2, a3, a4, a5, a6, a7⟩ := o1
  obtain ⟨c1, c2, c3, c4, c5, c6, c7⟩ := o2
  have e8 : ∀ z, w.heap.size ≤ z → z < w'.heap.size → z ≠ K → z ≠ HB → (if z < w.heap.size then τ z else if z < w'.heap.size then (if z = K ∨ z = HB then 2 else 8) else 3) = 8 := by
    intro z x1 x2 x3 x4
    rw [if_neg (by omega), if_pos x2, if_neg (by rintro (e | e); exact x3 e; exact x4 e)]
  refine ⟨((h.tags (fun z hz => if_pos hz)).below hb).below b, h1.below b, h2.below b, h3, h4, (VRow.made hop w').congr (fun u hu => if_neg (by omega)), fun u hu => by omega, ?_, ?_, ?_, ⟨?_, ?_, ?_, ?_, ?_, ?_, ?_⟩, fun u hu => by omega⟩
  · show (if K < w.heap.size then τ K else _) = 2
    rw [if_neg (by omega), if_pos lk, if_pos (.inl rfl)]
  · show (if HB < w.heap.size then τ HB else _) = 2
    rw [if_neg (by omega), if_pos lh, if_pos (.inr rfl)]
  · show (if w'.heap.size < w.heap.size then τ _ else _) = 3
    rw [if_neg (by omega), if_neg (by omega)]
  · exact e8 _ g3 l1 (Ne.symm a2) (Ne.symm c2)
  · exact e8 _ g4 l2 (Ne.symm a7) (Ne.symm c7)
  · exact e8 _ g5 l3 (Ne.symm a1) (Ne.symm c1)
  · exact e8 _ g6 l4 (Ne.symm a3) (Ne.symm c3)
  · exact e8 _ g7 l5 (Ne.symm a4) (Ne.symm c4)
  · exact e8 _ g8 l6 (Ne.symm a5) (Ne.symm c5)
  · exact e8 _ g9 l7 (Ne.symm a6) (Ne.symm c6)

/-- One peer more. -/
theorem PeD.step (h : PeD τ MB IB K HB HF PS RB Q P OB PB GB SB nb nf n m nn k mb pb bb fb bf order pos group w0 w) (hk : k < m) {e : Ending} (hr : RetPeer w nb nf n (mb k) e w') :
    ∃ τ' B BB FB, e = .returned (.pointer (some ⟨B, 0, Option.none⟩)) ∧ PeD τ' MB IB K HB HF PS RB Q P OB PB GB SB nb nf n m nn (k + 1) mb (upd pb k B) (upd bb k BB) (upd fb k FB) bf order pos group w0 (w'.setCell ⟨PS, k, Option.none⟩ (.pointer (some ⟨B, 0, Option.none⟩))) ∧ VRow PS m (fun u => if u < k then .pointer (some ⟨pb u, 0, Option.none⟩) else .pointer Option.none) w' := by
  obtain ⟨B, BB, FB, he, hp, ⟨g1, g2, g3⟩, hb⟩ := hr
  refine ⟨tagNew τ w.heap.size (50 + k), B, BB, FB, he, ?_, h.p.below hb⟩
  obtain ⟨t1, t2, t3, t4, t5, t6, t7⟩ := h.tr
  obtain ⟨l1, l2, l3, l4, l5, l6, l7⟩ := h.r.lt
  have lk := h.pk.klt; have lh := h.pk.lt; have lp := h.p.lt
  have lpe := fun u hu => (h.pe u hu).lt
  have old : ∀ z, z < w.heap.size → tagNew τ w.heap.size (50 + k) z = τ z := fun z hz => tagNew_old hz
  have bd := ((h.b.tags old).below hb)
  have hu : Upd (fun q => q.block = PS) w' (w'.setCell ⟨PS, k, Option.none⟩ (.pointer (some ⟨B, 0, Option.none⟩))) := Upd.set (Q := fun q => q.block = PS) (p := ⟨PS, k, Option.none⟩) (Upd.refl _ w') rfl _
  have ne : ∀ z, z < w.heap.size → τ z ≠ 3 → ∀ p : Addr, p.block = PS → p.block ≠ z := fun z _ hz p hp e => hz (by rw [← e, hp]; exact h.tp)
  have ne' : ∀ z, w.heap.size ≤ z → ∀ p : Addr, p.block = PS → p.block ≠ z := fun z hz p hp e => by rw [hp] at e; omega
  refine ⟨⟨bd.r.upd hu (ne _ h.b.r.lt (by rw [h.b.tm]; omega)), fun u hu' => (bd.b u hu').upd hu (ne _ (h.b.b u hu').lt (by rw [h.b.tb u hu']; omega)), bd.i.upd hu (ne _ h.b.i.lt (by rw [h.b.ti]; omega)), bd.tm, bd.ti, bd.tb, bd.o, ?_⟩, (h.pk.below hb).upd hu (fun p hp => ⟨ne _ lk (by rw [h.tk]; omega) p hp, ne _ lh (by rw [h.th]; omega) p hp⟩), (h.r.below hb).upd hu (fun p hp => ?_), h.v, h.g, ((h.p.below hb).set hk _).congr (fun u hu' => ?_), fun u hu' => ?_, by rw [old _ lk]; exact h.tk, by rw [old _ lh]; exact h.th, by rw [old _ lp]; exact h.tp, ⟨by rw [old _ l1]; exact t1, by rw [old _ l2]; exact t2, by rw [old _ l3]; exact t3, by rw [old _ l4]; exact t4, by rw [old _ l5]; exact t5, by rw [old _ l6]; exact t6, by rw [old _ l7]; exact t7⟩, fun u hu' => ?_⟩
  · refine bd.bl.setCell (p := ⟨PS, k, Option.none⟩) ?_ _
    rcases Nat.lt_or_ge PS w0.heap.size with k' | k'
    · have := h.b.o _ k'; have := h.tp; omega
    · exact k'
  · rw [show p.block = PS from hp]
    exact ⟨ne_tag (τ := τ) (by rw [h.tp]; omega), ne_tag (τ := τ) (by rw [h.tp]; omega), ne_tag (τ := τ) (by rw [h.tp]; omega), ne_tag (τ := τ) (by rw [h.tp]; omega), ne_tag (τ := τ) (by rw [h.tp]; omega), ne_tag (τ := τ) (by rw [h.tp]; omega), ne_tag (τ := τ) (by rw [h.tp]; omega)⟩
  · by_cases e : u = k
    · subst e; rw [upd_same, upd_same, if_pos (by omega)]
    · rw [upd_other _ _ _ e, upd_other _ _ _ e]
      by_cases e2 : u < k
      · rw [if_pos e2, if_pos (by omega)]
      · rw [if_neg e2, if_neg (by omega)]
  · by_cases e : u = k
    · subst e
      rw [upd_same, upd_same, upd_same]
      exact hp.upd hu (fun p hp => ⟨ne' _ g1 p hp, ne' _ g2 p hp, ne' _ g3 p hp⟩)
    · rw [upd_other _ _ _ e, upd_other _ _ _ e, upd_other _ _ _ e]
      have hu2 : u < k := by omega
      obtain ⟨q1, q2, q3⟩ := h.tq u hu2
      obtain ⟨s1, s2, s3⟩ := lpe u hu2
      exact ((h.pe u hu2).below hb).upd hu (fun p hp => ⟨ne _ s1 (by omega) p hp, ne _ s2 (by omega) p hp, ne _ s3 (by omega) p hp⟩)
  · by_cases e : u = k
    · subst e
      rw [upd_same, upd_same, upd_same]
      exact ⟨tagNew_new g1, tagNew_new g2, tagNew_new g3⟩
    · rw [upd_other _ _ _ e, upd_other _ _ _ e, upd_other _ _ _ e]
      have hu2 : u < k := by omega
      obtain ⟨s1, s2, s3⟩ := lpe u hu2
      rw [old _ s1, old _ s2, old _ s3]
      exact h.tq u hu2

/-- The three rows of the main loop are made. -/
theorem PeD.made (h : PeD τ MB IB K HB HF PS RB Q P OB PB GB SB nb nf n m nn m mb pb bb fb bf order pos group w0 w) {oe ow oc : Obj} (h1 : MadeOf (.bool false) (m * n) oe) (h2 : MadeOf (.int .i64 0) m ow) (h3 : MadeOf (.int .i64 0) n oc) :
    ∃ τ', StD τ' IB K HB HF PS w.heap.size (w.heap.size + 1) (w.heap.size + 2) RB Q P OB PB GB SB nb nf n m nn 3 3 mb pb bb fb bf (fun _ => false) (fun _ => 0) (fun _ => 0) (fun _ => 0) order pos group (st0 n) w0 (((w.alloc oe).alloc ow).alloc oc) := by
  have b1 := blk_new w oe
  have b2 := blk_new (w.alloc oe) ow
  have b3 := blk_new ((w.alloc oe).alloc ow) oc
  have z1 : (w.alloc oe).heap.size = w.heap.size + 1 := by simp
  have z2 : ((w.alloc oe).alloc ow).heap.size = w.heap.size + 2 := by simp
  have bb : Below w.heap.size w (((w.alloc oe).alloc ow).alloc oc) := (b1.trans (b2.mono (by omega))).trans (b3.mono (by omega))
  have re := ((VRow.made h1 w).below b2).below b3
  have rw' := (nrow_made h2 (w.alloc oe)).below b3
  have rc := nrow_made h3 ((w.alloc oe).alloc ow)
  rw [z1] at rw'
  rw [z2] at rc
  obtain ⟨t1, t2, t3, t4, t5, t6, t7⟩ := h.tr
  obtain ⟨l1, l2, l3, l4, l5, l6, l7⟩ := h.r.lt
  have lk := h.pk.klt; have lh := h.pk.lt; have lp := h.p.lt
  have lpe := fun u hu => (h.pe u hu).lt
  have old : ∀ z, z < w.heap.size → (if z < w.heap.size then τ z else if z = w.heap.size then 5 else if z = w.heap.size + 1 then 6 else 7) = τ z := fun z hz => if_pos hz
  refine ⟨fun z => if z < w.heap.size then τ z else if z = w.heap.size then 5 else if z = w.heap.size + 1 then 6 else 7, ⟨?_, ?_, ?_, ?_, ?_, ?_, ?_, ⟨?_, ?_, ?_, ?_, ?_, ?_, ?_⟩, fun u hu => ?_, fun u hu => ?_, fun z hz => ?_⟩, ⟨h.b.i.below bb, h.pk.below bb, (h.p.below bb).congr (fun u hu => by rw [if_pos hu]), fun u hu => (h.b.b u hu).below bb⟩, h.r.below bb, h.v, fun u hu => (h.pe u hu).below bb, re, rw', rc, h.b.bl.trans (bb.mono h.b.bl.size)⟩
  · exact (old _ h.b.i.lt).trans h.b.ti
  · exact (old _ lk).trans h.tk
  · exact (old _ lh).trans h.th
  · exact (old _ lp).trans h.tp
  · show (if w.heap.size < w.heap.size then _ else _) = 5
    rw [if_neg (by omega), if_pos rfl]
  · show (if w.heap.size + 1 < w.heap.size then _ else _) = 6
    rw [if_neg (by omega), if_neg (by omega), if_pos rfl]
  · show (if w.heap.size + 2 < w.heap.size then _ else _) = 7
    rw [if_neg (by omega), if_neg (by omega), if_neg (by omega)]
  · exact (old _ l1).trans t1
  · exact (old _ l2).trans t2
  · exact (old _ l3).trans t3
  · exact (old _ l4).trans t4
  · exact (old _ l5).trans t5
  · exact (old _ l6).trans t6
  · exact (old _ l7).trans t7
  · exact (old _ (h.b.b u hu).lt).trans (h.b.tb u hu)
  · obtain ⟨s1, s2, s3⟩ := lpe u hu
    obtain ⟨q1, q2, q3⟩ := h.tq u hu
    exact ⟨(old _ s1).trans q1, (old _ s2).trans q2, (old _ s3).trans q3⟩
  · exact (old _ (Nat.lt_of_lt_of_le hz h.b.bl.size)).trans (h.b.o z hz)
end

end Go.Proofs.Qxb6616210a
