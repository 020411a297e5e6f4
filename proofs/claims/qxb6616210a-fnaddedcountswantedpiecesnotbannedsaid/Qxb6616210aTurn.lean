import Derived.Test.Qxb6616210aPre
import Derived.Test.Qxb6616210aMatch
namespace Go.Proofs.Qxb6616210a
open Go.RowKit
set_option linter.unusedVariables false
set_option linter.unusedSimpArgs false
set_option maxRecDepth 100000

set_option maxHeartbeats 4000000 in
/-- zzBytes: some answer, and nothing is written. -/
theorem bytes_c (a0 a3 : Int) (s1 s2 : Nat) (a4 a5 a6 a7 : Option Addr) (l4 c4 l5 c5 l6 c6 l7 c7 : Nat) (w : World) :
    Calls Try.prog 26 #[.int .i64 a0, .int .u64 (s1 : Int), .int .u64 (s2 : Int), .int .i64 a3, .slice a4 l4 c4, .slice a5 l5 c5, .slice a6 l6 c6, .slice a7 l7 c7] w fun e w' => (∃ t, e = .returned (.bool t)) ∧ w' = w := by
  go_enter Try.func26, Try.ntmps26
  go_wp2_with fail
  all_goals (go_ret; exact ⟨⟨_, rfl⟩, rfl⟩)

/-- A row of whole numbers that came in. -/
def ArgR (a : Option Addr) (len : Nat) (z : Nat → Int) (w : World) : Prop :=
  0 < len → ∃ b o, a = some ⟨b, o, Option.none⟩ ∧ b < w.heap.size ∧ ∀ j, j < len → w.cell? ⟨b, o + j, Option.none⟩ = some (.int .i64 (z j))
theorem ArgR.below {a : Option Addr} {len : Nat} {z : Nat → Int} {w w' : World} (h : ArgR a len z w) (hb : Below w.heap.size w w') : ArgR a len z w' := by
  intro h0
  obtain ⟨b, o, e, l, c⟩ := h h0
  exact ⟨b, o, e, Nat.lt_of_lt_of_le l hb.size, fun j hj => cell_below hb (c j hj)⟩

def OkPair (m n : Nat) (x y : Int) : Prop := 0 ≤ x ∧ x < (m : Int) ∧ 0 ≤ y ∧ y < (n : Int)

/-- The state of the main loop behind k turns. -/
def MS (IB K PS EB WB CB nb nf n m nn k : Nat) (w0 w : World) : Prop :=
  ∃ τ HB HF RB Q P OB PB GB SB L C mb pb bb fb bf sf wt cnt order pos group start,
    StD τ IB K HB HF PS EB WB CB RB Q P OB PB GB SB nb nf n m nn L C mb pb bb fb bf sf wt wt cnt order pos group start w0 w ∧ (∀ j, j < n → group j = cnt j + 1) ∧ (3 ≤ L ∧ L ≤ k + 3) ∧ (∀ u, u < m → wt u ≤ k) ∧ (∀ j, j < n → cnt j ≤ k)

theorem MS.below {IB K PS EB WB CB nb nf n m nn k : Nat} {w0 w w' : World} (h : MS IB K PS EB WB CB nb nf n m nn k w0 w) (hb : Below w.heap.size w w') : MS IB K PS EB WB CB nb nf n m nn k w0 w' := by
  obtain ⟨τ, HB, HF, RB, Q, P, OB, PB, GB, SB, L, C, mb, pb, bb, fb, bf, sf, wt, cnt, order, pos, group, start, h1, h2⟩ := h
  exact ⟨τ, HB, HF, RB, Q, P, OB, PB, GB, SB, L, C, mb, pb, bb, fb, bf, sf, wt, cnt, order, pos, group, start, h1.below hb, h2⟩
theorem MS.succ {IB K PS EB WB CB nb nf n m nn k : Nat} {w0 w : World} (h : MS IB K PS EB WB CB nb nf n m nn k w0 w) : MS IB K PS EB WB CB nb nf n m nn (k + 1) w0 w := by
  obtain ⟨τ, HB, HF, RB, Q, P, OB, PB, GB, SB, L, C, mb, pb, bb, fb, bf, sf, wt, cnt, order, pos, group, start, h1, h2, h3, h4, h5⟩ := h
  exact ⟨τ, HB, HF, RB, Q, P, OB, PB, GB, SB, L, C, mb, pb, bb, fb, bf, sf, wt, cnt, order, pos, group, start, h1, h2, ⟨h3.1, by omega⟩, fun u hu => by have := h4 u hu; omega, fun j hj => by have := h5 j hj; omega⟩

section
variable {τ : Nat → Nat} {IB K HB HF PS EB WB CB RB Q P OB PB GB SB nb nf n m nn L C : Nat} {mb pb bb fb : Nat → Nat} {bf sf : Nat → Bool} {wt pw cnt order pos group start : Nat → Nat} {w0 w w' : World}

theorem StD.c27 (h : StD τ IB K HB HF PS EB WB CB RB Q P OB PB GB SB nb nf n m nn L C mb pb bb fb bf sf wt pw cnt order pos group start w0 w) (hm : m ≤ 16) (hn : n ≤ 65536) (hnb : nb = (n + 7) / 8) (hnf : nf = (nb + 63) / 64) {u i : Nat} (hu : u < m) (hi : i < n) :
    Calls Try.prog 27 #[.pointer (some ⟨pb u, 0, Option.none⟩), .int .i64 (i : Int)] w fun e w' => e = .returned (.tuple #[]) ∧ StD τ IB K HB HF PS EB WB CB RB Q P OB PB GB SB nb nf n m nn L C mb pb bb fb bf sf wt pw cnt order pos group start w0 w' ∧ BitOn (bb u) i w' := by
  refine (setHas_c (pb u) (bb u) (fb u) nb nf n (mb u) (pw u) i hi hn hnb hnf w (h.pe u hu)).mono ?_
  rintro e w1 ⟨he, h1, h2, h3⟩
  exact ⟨he, h.setHas hm hu h1 h3, h2⟩

theorem StD.c28 (h : StD τ IB K HB HF PS EB WB CB RB Q P OB PB GB SB nb nf n m nn L C mb pb bb fb bf sf wt pw cnt order pos group start w0 w) (hm : m ≤ 16) (hn : n ≤ 65536) (hnb : nb = (n + 7) / 8) (hL : L < 65536) {u i : Nat} (hu : u < m) (hi : i < n) (hx : pw u ≤ 65536) (ho : BitOn (bb u) i w) :
    Calls Try.prog 28 #[.pointer (some ⟨K, 0, Option.none⟩), .pointer (some ⟨pb u, 0, Option.none⟩), .int .i64 (i : Int)] w fun e w' => e = .returned (.tuple #[]) ∧ RetAdded RB Q P OB PB GB SB n L group i (pb u) (bb u) (fb u) nb nf (mb u) (if bf (u * n + i) then pw u else pw u + 1) w w' := by
  have t := h.t
  obtain ⟨q1, q2, q3⟩ := t.q u hu
  refine pickerAdded_w K (pb u) i w _ (fun e w' h => h.1) ?_
  exact added_c K HB HF RB Q P OB PB GB SB n L C order pos group start (pb u) (bb u) (fb u) nb nf (mb u) nn (pw u) i (fun x => bf (u * n + x)) hi hn hL hx hnb w h.r h.v.i h.f.k (h.pe u hu) ho (h.f.b u hu)
    (offTag t (by rw [t.k]; omega)) (offTag t (by rw [t.h]; omega)) (offTag t (by omega)) (offTag t (by omega)) (offTag t (by omega)) (offTag t (by rw [t.mm u hu]; omega))

theorem upd_id {α : Type} (f : Nat → α) (i : Nat) : upd f i (f i) = f := by
  funext j
  by_cases e : j = i
  · rw [e, upd_same]
  · rw [upd_other _ _ _ e]

theorem StD.turn {k u i : Nat} (h : StD τ IB K HB HF PS EB WB CB RB Q P OB PB GB SB nb nf n m nn L C mb pb bb fb bf sf (upd wt u (if bf (u * n + i) then wt u else wt u + 1)) wt (upd cnt i (cnt i + 1)) order pos group start w0 w) (hm : m ≤ 16) (hu : u < m) (hi : i < n)
    (hg : ∀ j, j < n → group j = cnt j + 1) (hL : 3 ≤ L ∧ L ≤ k + 3) (hwt : ∀ u, u < m → wt u ≤ k) (hc : ∀ j, j < n → cnt j ≤ k)
    (hr : RetAdded RB Q P OB PB GB SB n L group i (pb u) (bb u) (fb u) nb nf (mb u) (if bf (u * n + i) then wt u else wt u + 1) w w') : MS IB K PS EB WB CB nb nf n m nn (k + 1) w0 w' := by
  obtain ⟨τ', SB', L', C', order', pos', start', h1, h2, h3⟩ := h.added hm hu hi hr
  refine ⟨τ', HB, HF, RB, Q, P, OB, PB, GB, SB', L', C', mb, pb, bb, fb, bf, sf, _, _, order', pos', _, start', h1, fun j hj => ?_, ⟨by omega, by omega⟩, fun v hv => ?_, fun j hj => ?_⟩
  · by_cases e : j = i
    · subst e; rw [upd_same, upd_same, hg j hj]
    · rw [upd_other _ _ _ e, upd_other _ _ _ e, hg j hj]
  · by_cases e : v = u
    · subst e; rw [upd_same]; have := hwt v hv; split <;> omega
    · rw [upd_other _ _ _ e]; have := hwt v hv; omega
  · by_cases e : j = i
    · subst e; rw [upd_same]; have := hc j hj; omega
    · rw [upd_other _ _ _ e]; have := hc j hj; omega
end

section
variable {τ : Nat → Nat} {IB K HB HF PS EB WB CB RB Q P OB PB GB SB nb nf n m nn L C : Nat} {mb pb bb fb : Nat → Nat} {bf sf : Nat → Bool} {wt pw cnt order pos group start : Nat → Nat} {w0 w w' : World}

/-- The two calls of a turn. -/
theorem StD.both {k u i : Nat} (h : StD τ IB K HB HF PS EB WB CB RB Q P OB PB GB SB nb nf n m nn L C mb pb bb fb bf sf (upd wt u (if bf (u * n + i) then wt u else wt u + 1)) wt (upd cnt i (cnt i + 1)) order pos group start w0 w) (hm : m ≤ 16) (hn : n ≤ 65536) (hnb : nb = (n + 7) / 8) (hnf : nf = (nb + 63) / 64) (hu : u < m) (hi : i < n)
    (hg : ∀ j, j < n → group j = cnt j + 1) (hL : 3 ≤ L ∧ L ≤ k + 3) (hwt : ∀ u, u < m → wt u ≤ k) (hc : ∀ j, j < n → cnt j ≤ k) (hk : k ≤ 32768) :
    Calls Try.prog 27 #[.pointer (some ⟨pb u, 0, Option.none⟩), .int .i64 (i : Int)] w fun e w' => e = .returned (.tuple #[]) ∧ w'.cell? ⟨PS, u, Option.none⟩ = some (.pointer (some ⟨pb u, 0, Option.none⟩)) ∧
      Hid (Calls Try.prog 28 #[.pointer (some ⟨K, 0, Option.none⟩), .pointer (some ⟨pb u, 0, Option.none⟩), .int .i64 (i : Int)] w' fun e' w'' => e' = .returned (.tuple #[]) ∧ Aside (MS IB K PS EB WB CB nb nf n m nn (k + 1) w0 w'')) := by
  refine (h.c27 hm hn hnb hnf hu hi).mono ?_
  rintro e w1 ⟨he, h1, h2⟩
  refine ⟨he, h1.f.p.c u hu, ?_⟩
  refine (h1.c28 hm hn hnb (by omega) hu hi (by have := hwt u hu; omega) h2).mono ?_
  rintro e' w2 ⟨he', hr⟩
  exact ⟨he', h1.turn hm hu hi hg hL hwt hc hr⟩
end

section
variable {IB K PS EB WB CB nb nf n m nn k : Nat} {w0 w : World}
theorem MS.view (h : MS IB K PS EB WB CB nb nf n m nn k w0 w) {u : Nat} (hu : u < m) : ∃ B x : Nat, w.cell? ⟨PS, u, Option.none⟩ = some (.pointer (some ⟨B, 0, Option.none⟩)) ∧ w.cell? ⟨WB, u, Option.none⟩ = some (.int .i64 (x : Int)) ∧
    Hid (∀ q, Calls Try.prog 22 #[.pointer (some ⟨B, 0, Option.none⟩)] (w.drewN q) fun e w' => e = .returned (.int .i64 (x : Int)) ∧ w' = w.drewN q) ∧
    Hid (∀ p q, Calls Try.prog 23 #[p, .pointer (some ⟨B, 0, Option.none⟩)] (w.drewN q) fun e w' => e = .returned (.bool (decide ((0 : Int) < (x : Int)))) ∧ w' = w.drewN q) := by
  obtain ⟨τ, HB, HF, RB, Q, P, OB, PB, GB, SB, L, C, mb, pb, bb, fb, bf, sf, wt, cnt, order, pos, group, start, h1, h2⟩ := h
  have c6 := fun q => cell_below (below_drewN (Below.refl _ w) q) (h1.pe u hu).c6
  exact ⟨pb u, wt u, h1.f.p.c u hu, h1.wr.c u hu, fun q => wanted_c _ _ _ (c6 q), fun p q => interesting_c p _ _ _ (c6 q)⟩

theorem MS.tail (h : MS IB K PS EB WB CB nb nf n m nn k w0 w) (hk : k ≤ 32768) (hn : n ≤ 65536) : ∃ RB OB PB GB SB L C, w.cell? ⟨K, 19, Option.none⟩ = some (.pointer (some ⟨RB, 0, Option.none⟩)) ∧
    (w.cell? ⟨RB, 1, Option.none⟩ = some (.slice (some ⟨OB, 0, Option.none⟩) n n) ∧ w.cell? ⟨RB, 2, Option.none⟩ = some (.slice (some ⟨PB, 0, Option.none⟩) n n) ∧ w.cell? ⟨RB, 3, Option.none⟩ = some (.slice (some ⟨GB, 0, Option.none⟩) n n) ∧ w.cell? ⟨RB, 4, Option.none⟩ = some (.slice (some ⟨SB, 0, Option.none⟩) L C)) ∧
    Hid (Calls Try.prog 12 #[.int .i64 (n : Int), .slice (some ⟨OB, 0, Option.none⟩) n n, .slice (some ⟨PB, 0, Option.none⟩) n n, .slice (some ⟨GB, 0, Option.none⟩) n n, .slice (some ⟨SB, 0, Option.none⟩) L C, .slice (some ⟨CB, 0, Option.none⟩) n n] w fun e w' => e = .returned (.bool true) ∧ Below w0.heap.size w0 w') := by
  obtain ⟨τ, HB, HF, RB, Q, P, OB, PB, GB, SB, L, C, mb, pb, bb, fb, bf, sf, wt, cnt, order, pos, group, start, h1, h2, h3, h4, h5⟩ := h
  refine ⟨RB, OB, PB, GB, SB, L, C, h1.f.k.c19, ⟨h1.r.r.o, h1.r.r.p, h1.r.r.g, h1.r.r.s⟩, ?_⟩
  refine (match_c OB PB GB SB CB n L C order pos group start cnt hn (by omega) h3.1 h1.v h2 w ⟨h1.r.r.ro, h1.r.r.rp, h1.r.r.rg, h1.r.r.rs, h1.c, Below.refl _ _⟩).mono ?_
  rintro e w' ⟨he, hb⟩
  exact ⟨he, h1.bl.trans (hb.mono h1.bl.size)⟩
end

/-- While the peers are made, the rest hidden. -/
def PeP (MB IB K PS nb nf n m nn k : Nat) (w0 w : World) : Prop :=
  ∃ τ HB HF RB Q P OB PB GB SB mb pb bb fb bf order pos group, PeD τ MB IB K HB HF PS RB Q P OB PB GB SB nb nf n m nn k mb pb bb fb bf order pos group w0 w

theorem PeP.made {MB IB K PS nb nf n m nn : Nat} {w0 w : World} (h : PeP MB IB K PS nb nf n m nn m w0 w) {oe ow oc : Obj} (h1 : MadeOf (.bool false) (m * n) oe) (h2 : MadeOf (.int .i64 0) m ow) (h3 : MadeOf (.int .i64 0) n oc) :
    MS IB K PS w.heap.size (w.heap.size + 1) (w.heap.size + 2) nb nf n m nn 0 w0 (((w.alloc oe).alloc ow).alloc oc) := by
  obtain ⟨τ, HB, HF, RB, Q, P, OB, PB, GB, SB, mb, pb, bb, fb, bf, order, pos, group, h⟩ := h
  obtain ⟨τ', hs⟩ := h.made h1 h2 h3
  exact ⟨τ', HB, HF, RB, Q, P, OB, PB, GB, SB, 3, 3, mb, pb, bb, fb, bf, _, _, _, order, pos, group, _, hs, fun j hj => h.g j hj, ⟨Nat.le_refl _, Nat.le_refl _⟩, fun u hu => Nat.le_refl _, fun j hj => Nat.le_refl _⟩

theorem PeP.start {τ : Nat → Nat} {MB IB nb nf n m nn : Nat} {mb : Nat → Nat} {bf : Nat → Bool} {w0 w w' : World} (h : BnD τ MB IB m n nn mb bf w0 w) {e : Ending} (hr : RetPicker w nb nf n e w') {op : Obj} (hop : MadeOf (.pointer Option.none) m op) :
    ∃ K, e = .returned (.pointer (some ⟨K, 0, Option.none⟩)) ∧ PeP MB IB K w'.heap.size nb nf n m nn 0 w0 (w'.alloc op) := by
  obtain ⟨τ', K, HB, HF, RB, Q, P, OB, PB, GB, SB, order, pos, group, he, hp⟩ := PeD.start h hr hop
  exact ⟨K, he, τ', HB, HF, RB, Q, P, OB, PB, GB, SB, mb, _, _, _, bf, order, pos, group, hp⟩

end Go.Proofs.Qxb6616210a
