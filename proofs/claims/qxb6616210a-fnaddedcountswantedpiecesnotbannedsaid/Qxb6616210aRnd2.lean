import Derived.Test.Qxb6616210aRnd
namespace Go.Proofs.Qxb6616210a
open Go.RowKit
set_option linter.unusedVariables false
set_option linter.unusedSimpArgs false
set_option maxRecDepth 100000

theorem out_eq (hi lo : Nat) (hh : hi < 18446744073709551616) (hl : lo < 18446744073709551616) :
    IntKind.u64.wrap (bits BinOp.xor IntKind.u64 (IntKind.u64.wrap (bits BinOp.xor IntKind.u64 (hi : Int) ((hi : Int) / 4294967296) * 15750249268501108917)) (IntKind.u64.wrap (bits BinOp.xor IntKind.u64 (hi : Int) ((hi : Int) / 4294967296) * 15750249268501108917) / 281474976710656) * bits BinOp.or IntKind.u64 (lo : Int) 1) = ((Pcg.out hi lo : Nat) : Int) := by
  obtain ⟨a, ha⟩ : ∃ a, a = hi ^^^ (hi / 4294967296) := ⟨_, rfl⟩
  have e1 : bits BinOp.xor IntKind.u64 (hi : Int) ((hi : Int) / 4294967296) = (a : Int) := by
    rw [ha]
    have := bits_xor_u64_nat hi (hi / 4294967296) hh (by omega)
    rw [← this]; rfl
  obtain ⟨m, hm⟩ : ∃ m, m = a * 15750249268501108917 := ⟨_, rfl⟩
  have hm' : (a : Int) * 15750249268501108917 = (m : Int) := by rw [hm]; simp
  obtain ⟨b, hb⟩ : ∃ b, b = m % 18446744073709551616 := ⟨_, rfl⟩
  have e2 : IntKind.u64.wrap (m : Int) = (b : Int) := by rw [IntKind.wrap_u64, hb]; omega
  have hbl : b < 18446744073709551616 := by rw [hb]; omega
  obtain ⟨c, hc⟩ : ∃ c, c = b ^^^ (b / 281474976710656) := ⟨_, rfl⟩
  have e3 : bits BinOp.xor IntKind.u64 (b : Int) ((b : Int) / 281474976710656) = (c : Int) := by
    rw [hc]
    have := bits_xor_u64_nat b (b / 281474976710656) hbl (by omega)
    rw [← this]; rfl
  obtain ⟨d, hd⟩ : ∃ d, d = lo ||| 1 := ⟨_, rfl⟩
  have e4 : bits BinOp.or IntKind.u64 (lo : Int) 1 = (d : Int) := by
    rw [hd]
    have := bits_or_u64_nat lo 1 hl (by omega)
    rw [← this]; rfl
  rw [e1, hm', e2, e3, e4]
  obtain ⟨q, hq⟩ : ∃ q, q = c * d := ⟨_, rfl⟩
  have hq' : (c : Int) * (d : Int) = (q : Int) := by rw [hq]; simp
  rw [hq', IntKind.wrap_u64]
  have hout : Pcg.out hi lo = q % 18446744073709551616 := by
    unfold Pcg.out
    rw [← ha, ← hm, ← hb, ← hc, ← hd, ← hq]
  rw [hout]; omega

set_option maxHeartbeats 1000000 in
theorem draw_w (P : Nat) (hi lo : Int) (O : Int) (w : World)
    (c75 : Hid (Calls Try.prog 75 #[.pointer (some ⟨P, 0, Option.none⟩)] w fun e w' => e = .returned (.tuple #[.int .u64 hi, .int .u64 lo]) ∧ ∃ n, w' = ((w.drewN n).setCell ⟨P, 1, Option.none⟩ (.int .u64 lo)).setCell ⟨P, 0, Option.none⟩ (.int .u64 hi)))
    (hO : IntKind.u64.wrap (bits BinOp.xor IntKind.u64 (IntKind.u64.wrap (bits BinOp.xor IntKind.u64 hi (hi / 4294967296) * 15750249268501108917)) (IntKind.u64.wrap (bits BinOp.xor IntKind.u64 hi (hi / 4294967296) * 15750249268501108917) / 281474976710656) * bits BinOp.or IntKind.u64 lo 1) = O) :
    Calls Try.prog 74 #[.pointer (some ⟨P, 0, Option.none⟩)] w fun e w' => e = .returned (.int .u64 O) ∧ ∃ n, w' = ((w.drewN n).setCell ⟨P, 1, Option.none⟩ (.int .u64 lo)).setCell ⟨P, 0, Option.none⟩ (.int .u64 hi) := by
  go_enter Try.func74, Try.ntmps74
  go_wp2_with fail
  refine c75.out.mono ?_
  rintro e w1 ⟨rfl, n, rfl⟩
  go_wp2_with fail
  go_ret
  exact ⟨rfl, n, rfl⟩

/-- What the state's next draw gives. -/
def drawn (x : Nat) : Nat := Pcg.out (nextW x / 18446744073709551616) (nextW x % 18446744073709551616)

theorem out_lt (hi lo : Nat) : Pcg.out hi lo < 18446744073709551616 := Nat.mod_lt _ (by decide)
theorem drawn_lt (x : Nat) : drawn x < 18446744073709551616 := out_lt _ _

/-- One draw of the generator. -/
theorem draw_c (P x : Nat) (w : World) (h : PcgAt P x w) :
    Calls Try.prog 74 #[.pointer (some ⟨P, 0, Option.none⟩)] w fun e w' => e = .returned (.int .u64 ((drawn x : Nat) : Int)) ∧ PcgAt P (nextW x) w' ∧ Upd (fun p => p.block = P) w w' := by
  obtain ⟨hi, lo, rfl, hh, hl, hP⟩ := h
  obtain ⟨hi', lo', hh', hl', hn, c75⟩ := next_c P hi lo hh hl w hP
  refine (draw_w P hi' lo' _ w c75 (out_eq hi' lo' hh' hl')).mono ?_
  rintro e w' ⟨rfl, n, rfl⟩
  refine ⟨?_, ⟨hi', lo', hn.symm, hh', hl', (hP.drewN n).set hi' lo'⟩, ?_⟩
  · unfold drawn
    rw [← hn, num_div _ _ hl', num_mod _ _ hl']
  · exact Upd.set (Q := fun p => p.block = P) (p := ⟨P, 0, Option.none⟩) (Upd.set (Q := fun p => p.block = P) (p := ⟨P, 1, Option.none⟩) ((Upd.refl _ w).below (below_drewN (Below.refl _ _) n)) rfl _) rfl _

/-- The source behind a Rand. -/
def RandAt (Q P : Nat) (w : World) : Prop := w.cell? ⟨Q, 0, Option.none⟩ = some (.iface 52 (.pointer (some ⟨P, 0, Option.none⟩)))

/-- A Rand over the generator, as the walk holds it. -/
structure RH (w : World) (Q P x : Nat) (w' : World) : Prop where
  r : RandAt Q P w'
  p : PcgAt P x w'
  ne : Q ≠ P
  up : Upd (fun p => p.block = P) w w'

theorem PcgAt.below {P x : Nat} {w w' : World} (h : PcgAt P x w) (hb : Below w.heap.size w w') : PcgAt P x w' := by
  obtain ⟨hi, lo, h1, h2, h3, h4⟩ := h
  exact ⟨hi, lo, h1, h2, h3, h4.below hb⟩
theorem PcgAt.block {P x : Nat} {w : World} (h : PcgAt P x w) : P < w.heap.size := by
  obtain ⟨hi, lo, h1, h2, h3, h4⟩ := h
  exact World.block_lt_of_cell? w _ h4.c0

set_option maxHeartbeats 1000000 in
theorem rdraw_w (Q P : Nat) (O : Int) (w : World) (Post : World → Prop) (hR : w.cell? ⟨Q, 0, Option.none⟩ = some (.iface 52 (.pointer (some ⟨P, 0, Option.none⟩))))
    (c74 : Hid (Calls Try.prog 74 #[.pointer (some ⟨P, 0, Option.none⟩)] w fun e w' => e = .returned (.int .u64 O) ∧ Post w')) :
    Calls Try.prog 52 #[.pointer (some ⟨Q, 0, Option.none⟩)] w fun e w' => e = .returned (.int .u64 O) ∧ Post w' := by
  have hm : ∀ w : World, (method 221 52 (.pointer (some ⟨P, 0, Option.none⟩)) "Uint64").run Try.prog w = .ok (74, .pointer (some ⟨P, 0, Option.none⟩)) w := fun _ => by kernel_rfl
  go_enter Try.func52, Try.ntmps52
  go_wp2_with fail
  refine c74.out.mono ?_
  rintro e w1 ⟨rfl, hP⟩
  have HP : Hid (Post w1) := hP
  clear hP
  go_wp2_with fail
  go_ret
  exact ⟨rfl, HP.out⟩

/-- One draw of the Rand. -/
theorem rdraw_c {w w1 : World} {Q P x : Nat} (h : RH w Q P x w1) :
    Calls Try.prog 52 #[.pointer (some ⟨Q, 0, Option.none⟩)] w1 fun e w' => e = .returned (.int .u64 ((drawn x : Nat) : Int)) ∧ RH w Q P (nextW x) w' := by
  refine rdraw_w Q P _ w1 _ h.r ((draw_c P x w1 h.p).mono fun e w' ⟨h1, h2, h3⟩ => ⟨h1, ?_, h2, h.ne, h.up.trans h3⟩)
  have hb := World.block_lt_of_cell? w1 _ h.r
  exact (h3.cell _ hb h.ne).trans h.r

/-- m + 1 steps from x on comes a draw of all ones. -/
def OnesG (a c M B x m : Nat) : Prop := Pcg.out (Pcg.nextN a c M (m + 1) x / B) (Pcg.nextN a c M (m + 1) x % B) = 18446744073709551615
theorem onesG_succ {a c M B x m : Nat} (h : OnesG a c M B x (m + 1)) : OnesG a c M B (Pcg.next a c M x) m := h
theorem onesG_zero {a c M B x : Nat} (h : OnesG a c M B x 0) : Pcg.out (Pcg.next a c M x / B) (Pcg.next a c M x % B) = 18446744073709551615 := h
def OnesIn (x m : Nat) : Prop := OnesG (2549297995355413924 * 18446744073709551616 + 4865540595714422341) (6364136223846793005 * 18446744073709551616 + 1442695040888963407) (18446744073709551616 * 18446744073709551616) 18446744073709551616 x m
theorem onesIn_ex (x : Nat) : ∃ m, OnesIn x m :=
  Pcg.ones _ _ _ _ ⟨11756561921985530462036051872959380881, by decide⟩ ⟨58698796085763056634279467059502104743, by decide⟩ (by decide) (by decide) x
theorem onesIn_zero {x : Nat} (h : OnesIn x 0) : drawn x = 18446744073709551615 := by
  unfold drawn nextW
  unfold OnesIn at h
  exact onesG_zero h
theorem onesIn_succ {x m : Nat} (h : OnesIn x (m + 1)) : OnesIn (nextW x) m := by
  unfold OnesIn at h ⊢
  unfold nextW
  exact onesG_succ h

end Go.Proofs.Qxb6616210a
