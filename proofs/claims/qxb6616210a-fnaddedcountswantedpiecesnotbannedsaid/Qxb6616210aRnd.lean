import Derived.Test.Qxb6616210aRows
import Derived.Test.Qxb6616210aShelf
import Derived.Test.Qxb6616210aPcg
import Derived.WalkKit
import Derived.WalkSpells
import Derived.WalkLawsBesides
import Derived.Laws.Bits64b
import Derived.Laws.Externs
import Derived.Below
import Derived.WalkSmall
import Derived.Deep.LoopGhost
import Derived.Deep.DeepCutAuto
import Derived.BigQuiet
import Derived.BigRegion
import Derived.Deep.AppendLies
import Derived.Laws.MakeOwn
namespace Go.Proofs.Qxb6616210a
open Go.RowKit
set_option linter.unusedVariables false
set_option linter.unusedSimpArgs false
set_option maxRecDepth 100000

/-- A world that differs from an earlier one in the cells Q (and in new memory) alone. -/
structure Upd (Q : Addr → Prop) (w w' : World) : Prop where
  size : w.heap.size ≤ w'.heap.size
  cell : ∀ p : Addr, p.block < w.heap.size → ¬ Q p → w'.cell? p = w.cell? p
  low : ∀ N, (∀ p, Q p → N ≤ p.block) → N ≤ w.heap.size → Below N w w'
  blk : ∀ k, k < w.heap.size → (∀ p, Q p → p.block ≠ k) → w'.heap[k]? = w.heap[k]?

theorem Upd.refl (Q : Addr → Prop) (w : World) : Upd Q w w := ⟨Nat.le_refl _, fun _ _ _ => rfl, fun _ _ _ => Below.refl _ _, fun _ _ _ => rfl⟩
theorem Upd.below {Q : Addr → Prop} {a w w' : World} (h : Upd Q a w) (hb : Below w.heap.size w w') : Upd Q a w' :=
  ⟨Nat.le_trans h.size hb.size, fun p hp hq => (hb.cell (Nat.lt_of_lt_of_le hp h.size)).trans (h.cell p hp hq),
   fun N h1 h2 => (h.low N h1 h2).trans (hb.mono (Nat.le_trans h2 h.size)), fun k hk hq => (hb.block k (Nat.lt_of_lt_of_le hk h.size)).trans (h.blk k hk hq)⟩
theorem Upd.drew {Q : Addr → Prop} {a w : World} (h : Upd Q a w) : Upd Q a w.drew := ⟨h.size, h.cell, fun N h1 h2 => (h.low N h1 h2).drew, h.blk⟩
theorem Upd.set {Q : Addr → Prop} {a w : World} (h : Upd Q a w) {p : Addr} (hq : Q p) (u : Value) : Upd Q a (w.setCell p u) :=
  ⟨by rw [World.size_setCell]; exact h.size, fun q h1 h2 => (World.cell?_setCell_other w p q u (fun e => h2 (e ▸ hq))).trans (h.cell q h1 h2),
   fun N h1 h2 => (h.low N h1 h2).setCell (h1 p hq) u, fun k hk hq' => (Below.heap_setCell w p u k (Ne.symm (hq' p hq))).trans (h.blk k hk hq')⟩
theorem Upd.trans {Q : Addr → Prop} {a b c : World} (h : Upd Q a b) (k : Upd Q b c) : Upd Q a c :=
  ⟨Nat.le_trans h.size k.size, fun p hp hq => (k.cell p (Nat.lt_of_lt_of_le hp h.size) hq).trans (h.cell p hp hq),
   fun N h1 h2 => (h.low N h1 h2).trans (k.low N h1 (Nat.le_trans h2 h.size)), fun j hj hq => (k.blk j (Nat.lt_of_lt_of_le hj h.size) hq).trans (h.blk j hj hq)⟩
theorem Upd.mono {Q R : Addr → Prop} {a b : World} (h : Upd Q a b) (hQ : ∀ p, Q p → R p) : Upd R a b :=
  ⟨h.size, fun p hp hq => h.cell p hp (fun k => hq (hQ p k)), fun N h1 h2 => h.low N (fun p hp => h1 p (hQ p hp)) h2, fun k hk hq => h.blk k hk (fun p hp => hq p (hQ p hp))⟩
theorem Upd.of_below {Q : Addr → Prop} {w w' : World} (h : Below w.heap.size w w') : Upd Q w w' := (Upd.refl Q w).below h

theorem Upd.frozen {Q : Addr → Prop} {w w' : World} (h : Upd Q w w') {p : Addr} (hp : p.block < w.heap.size) (hq : ∀ q, Q q → q.block ≠ p.block) : w'.frozen? p = w.frozen? p := World.frozen?_of_block (h.blk p.block hp hq)

theorem cell_below {w w' : World} (hb : Below w.heap.size w w') {p : Addr} {v : Value} (h : w.cell? p = some v) : w'.cell? p = some v := (hb.cell (World.block_lt_of_cell? w _ h)).trans h

theorem add76 (x y c : Int) (hx : 0 ≤ x) (hy : 0 ≤ y) (hc0 : 0 ≤ c) (hc : c ≤ 1) (w : World) : (callFunc 76 #[.int .u64 x, .int .u64 y, .int .u64 c]).run Try.prog w =
    .ok (.value (.tuple #[.int .u64 ((x + y + c) % 18446744073709551616), .int .u64 ((x + y + c) / 18446744073709551616)])) w := by
  rw [run_callFunc_extern Try.func76 (by kernel_rfl) (by kernel_rfl) (by kernel_rfl) (e := add64Entry) (by kernel_rfl), run_add64 x y c hx hy hc0 hc]
  rfl

/-- The generator's two words. -/
structure Pst (P : Nat) (hi lo : Int) (w : World) : Prop where
  c0 : w.cell? ⟨P, 0, Option.none⟩ = some (.int .u64 hi)
  c1 : w.cell? ⟨P, 1, Option.none⟩ = some (.int .u64 lo)
  f0 : w.frozen? ⟨P, 0, Option.none⟩ = false
  f1 : w.frozen? ⟨P, 1, Option.none⟩ = false

theorem Pst.set {P : Nat} {hi lo : Int} {w : World} (h : Pst P hi lo w) (hi' lo' : Int) : Pst P hi' lo' ((w.setCell ⟨P, 1, Option.none⟩ (.int .u64 lo')).setCell ⟨P, 0, Option.none⟩ (.int .u64 hi')) := by
  have c0 := h.c0; have c1 := h.c1; have f0 := h.f0; have f1 := h.f1
  exact ⟨by simp [go_sem, c0, c1], by simp [go_sem, c0, c1], by simpa using f0, by simpa using f1⟩
theorem Pst.drewN {P : Nat} {hi lo : Int} {w : World} (h : Pst P hi lo w) (n : Nat) : Pst P hi lo (w.drewN n) :=
  ⟨by simpa using h.c0, by simpa using h.c1, by simpa using h.f0, by simpa using h.f1⟩
theorem Pst.below {P : Nat} {hi lo : Int} {w w' : World} (h : Pst P hi lo w) (hb : Below w.heap.size w w') : Pst P hi lo w' :=
  have l := World.block_lt_of_cell? w _ h.c0
  ⟨cell_below hb h.c0, cell_below hb h.c1, (hb.frozen (p := ⟨P, 0, Option.none⟩) l).trans h.f0, (hb.frozen (p := ⟨P, 1, Option.none⟩) l).trans h.f1⟩

set_option maxHeartbeats 1000000 in
theorem next_w (P : Nat) (hi lo H1 L1 x1 x2 x3 H2 L3 C H3 C2 : Int) (w : World) (h : Pst P hi lo w)
    (c53 : Hid (∀ w, Calls Try.prog 53 #[.int .u64 lo, .int .u64 4865540595714422341] w fun e w' => e = .returned (.tuple #[.int .u64 H1, .int .u64 L1]) ∧ w' = w))
    (e1 : IntKind.u64.wrap (hi * 4865540595714422341) = x1) (e2 : IntKind.u64.wrap (lo * 2549297995355413924) = x2) (e3 : IntKind.u64.wrap (x1 + x2) = x3) (e4 : IntKind.u64.wrap (H1 + x3) = H2)
    (a1 : ∀ w, (callFunc 76 #[.int .u64 L1, .int .u64 1442695040888963407, .int .u64 0]).run Try.prog w = .ok (.value (.tuple #[.int .u64 L3, .int .u64 C])) w)
    (a2 : ∀ w, (callFunc 76 #[.int .u64 H2, .int .u64 6364136223846793005, .int .u64 C]).run Try.prog w = .ok (.value (.tuple #[.int .u64 H3, .int .u64 C2])) w) :
    Calls Try.prog 75 #[.pointer (some ⟨P, 0, Option.none⟩)] w fun e w' => e = .returned (.tuple #[.int .u64 H3, .int .u64 L3]) ∧ ∃ n, w' = ((w.drewN n).setCell ⟨P, 1, Option.none⟩ (.int .u64 L3)).setCell ⟨P, 0, Option.none⟩ (.int .u64 H3) := by
  have c0 := h.c0; have c1 := h.c1; have f0 := h.f0; have f1 := h.f1
  clear h
  go_enter Try.func75, Try.ntmps75
  go_wp2_with fail
  refine (c53.out _).mono ?_
  rintro e w1 ⟨rfl, rfl⟩
  go_wp2_with fail
  go_quiet (fail)
  go_wp2_with (simp only [a1, a2])
  go_ret2
  exact ⟨rfl, _, rfl⟩

/-- Two words and their number. -/
def num (hi lo : Nat) : Nat := hi * 18446744073709551616 + lo

theorem next_words (hi lo a1 a0 c1 c0 B : Nat) (hB : 0 < B) :
    ((hi * B + lo) * (a1 * B + a0) + (c1 * B + c0)) % (B * B) = ((lo * a0 / B + (hi * a0 + lo * a1)) % B + c1 + (lo * a0 % B + c0) / B) % B * B + (lo * a0 % B + c0) % B := by
  obtain ⟨p, hp⟩ : ∃ p, p = lo * a0 := ⟨_, rfl⟩
  obtain ⟨s, hs⟩ : ∃ s, s = p % B + c0 := ⟨_, rfl⟩
  rw [← hp, ← hs]
  have e1 : (hi * B + lo) * (a1 * B + a0) + (c1 * B + c0) = s % B + B * (p / B + (hi * a0 + lo * a1) + c1 + s / B + B * (hi * a1)) := by
    have h1 := Nat.div_add_mod p B
    have h2 := Nat.div_add_mod s B
    have h3 : (hi * B + lo) * (a1 * B + a0) + (c1 * B + c0) = B * (B * (hi * a1)) + B * (hi * a0 + lo * a1) + p + c1 * B + c0 := by rw [hp]; grind
    have h4 : s % B + B * (p / B + (hi * a0 + lo * a1) + c1 + s / B + B * (hi * a1)) = s % B + B * (s / B) + B * (p / B) + B * (hi * a0 + lo * a1) + B * c1 + B * (B * (hi * a1)) := by grind
    rw [h3, h4]
    have h5 : B * c1 = c1 * B := Nat.mul_comm _ _
    omega
  rw [e1, Nat.mod_mul]
  have e2 : (s % B + B * (p / B + (hi * a0 + lo * a1) + c1 + s / B + B * (hi * a1))) % B = s % B := by rw [Nat.add_mul_mod_self_left, Nat.mod_mod]
  have e3 : (s % B + B * (p / B + (hi * a0 + lo * a1) + c1 + s / B + B * (hi * a1))) / B = p / B + (hi * a0 + lo * a1) + c1 + s / B + B * (hi * a1) := by
    rw [Nat.add_mul_div_left _ _ hB, Nat.div_eq_of_lt (Nat.mod_lt _ hB), Nat.zero_add]
  have e4 : ((p / B + (hi * a0 + lo * a1)) % B + c1 + s / B) % B = (p / B + (hi * a0 + lo * a1) + c1 + s / B) % B := by
    rw [Nat.add_assoc, Nat.mod_add_mod, ← Nat.add_assoc]
  rw [e2, e3, Nat.add_mul_mod_self_left, e4, Nat.mul_comm B, Nat.add_comm]

/-- The generator's step on its two words. -/
def nextW (x : Nat) : Nat := Pcg.next (2549297995355413924 * 18446744073709551616 + 4865540595714422341) (6364136223846793005 * 18446744073709551616 + 1442695040888963407) (18446744073709551616 * 18446744073709551616) x

theorem nextW_num (hi lo : Nat) : nextW (num hi lo) = num (((lo * 4865540595714422341 / 18446744073709551616 + (hi * 4865540595714422341 + lo * 2549297995355413924)) % 18446744073709551616 + 6364136223846793005 + (lo * 4865540595714422341 % 18446744073709551616 + 1442695040888963407) / 18446744073709551616) % 18446744073709551616)
    ((lo * 4865540595714422341 % 18446744073709551616 + 1442695040888963407) % 18446744073709551616) :=
  next_words hi lo _ _ _ _ _ (by decide)

theorem num_div (hi lo : Nat) (h : lo < 18446744073709551616) : num hi lo / 18446744073709551616 = hi := by unfold num; omega
theorem num_mod (hi lo : Nat) (h : lo < 18446744073709551616) : num hi lo % 18446744073709551616 = lo := by unfold num; omega

/-- The generator at state x. -/
def PcgAt (P : Nat) (x : Nat) (w : World) : Prop := ∃ hi lo : Nat, x = num hi lo ∧ hi < 18446744073709551616 ∧ lo < 18446744073709551616 ∧ Pst P hi lo w

theorem next_c (P hi lo : Nat) (hh : hi < 18446744073709551616) (hl : lo < 18446744073709551616) (w : World) (h : Pst P hi lo w) :
    ∃ hi' lo' : Nat, hi' < 18446744073709551616 ∧ lo' < 18446744073709551616 ∧ num hi' lo' = nextW (num hi lo) ∧
    Calls Try.prog 75 #[.pointer (some ⟨P, 0, Option.none⟩)] w fun e w' => e = .returned (.tuple #[.int .u64 (hi' : Int), .int .u64 (lo' : Int)]) ∧ ∃ n, w' = ((w.drewN n).setCell ⟨P, 1, Option.none⟩ (.int .u64 (lo' : Int))).setCell ⟨P, 0, Option.none⟩ (.int .u64 (hi' : Int)) := by
  obtain ⟨p, hp⟩ : ∃ p, p = lo * 4865540595714422341 := ⟨_, rfl⟩
  obtain ⟨q, hq⟩ : ∃ q, q = hi * 4865540595714422341 := ⟨_, rfl⟩
  obtain ⟨r, hr⟩ : ∃ r, r = lo * 2549297995355413924 := ⟨_, rfl⟩
  have hp' : (lo : Int) * 4865540595714422341 = (p : Int) := by rw [hp]; simp
  have hq' : (hi : Int) * 4865540595714422341 = (q : Int) := by rw [hq]; simp
  have hr' : (lo : Int) * 2549297995355413924 = (r : Int) := by rw [hr]; simp
  have hn := nextW_num hi lo
  rw [← hp, ← hq, ← hr] at hn
  refine ⟨_, _, ?_, ?_, hn.symm, ?_⟩
  · omega
  · omega
  have c53 := Try.bits_Mul64 lo 4865540595714422341 hl (by decide)
  rw [← hp] at c53
  refine next_w P hi lo ((p / 18446744073709551616 : Nat) : Int) ((p % 18446744073709551616 : Nat) : Int) ((q % 18446744073709551616 : Nat) : Int) ((r % 18446744073709551616 : Nat) : Int) (((q + r) % 18446744073709551616 : Nat) : Int) (((p / 18446744073709551616 + (q + r)) % 18446744073709551616 : Nat) : Int) _ (((p % 18446744073709551616 + 1442695040888963407) / 18446744073709551616 : Nat) : Int) _ (((((p / 18446744073709551616 + (q + r)) % 18446744073709551616 : Nat) : Int) + 6364136223846793005 + (((p % 18446744073709551616 + 1442695040888963407) / 18446744073709551616 : Nat) : Int)) / 18446744073709551616) w h c53 ?_ ?_ ?_ ?_ (fun w => ?_) (fun w => ?_)
  · rw [hq', IntKind.wrap_u64]; omega
  · rw [hr', IntKind.wrap_u64]; omega
  · rw [IntKind.wrap_u64]; omega
  · rw [IntKind.wrap_u64]; omega
  · rw [add76 _ _ _ (by omega) (by omega) (by omega) (by omega)]
    congr 6
    all_goals omega
  · rw [add76 _ _ _ (by omega) (by omega) (by omega) (by omega)]
    congr 6

end Go.Proofs.Qxb6616210a
