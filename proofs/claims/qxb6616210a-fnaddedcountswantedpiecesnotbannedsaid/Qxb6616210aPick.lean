import Derived.Test.Qxb6616210aPeer
import Derived.Test.Qxb6616210aNewR
namespace Go.Proofs.Qxb6616210a
open Go.RowKit
set_option linter.unusedVariables false
set_option linter.unusedSimpArgs false
set_option maxRecDepth 100000

/-- A picker in memory: its (empty) set of checked pieces and its rarity. -/
structure PickAt (K HB HF nb nf n RB : Nat) (w : World) : Prop where
  c4 : w.cell? ⟨K, 4, Option.none⟩ = some (.slice (some ⟨HB, 0, Option.none⟩) nb nb)
  c5 : w.cell? ⟨K, 5, Option.none⟩ = some (.int .i64 (n : Int))
  c6 : w.cell? ⟨K, 6, Option.none⟩ = some (.int .i64 0)
  c7 : w.cell? ⟨K, 7, Option.none⟩ = some (.slice (some ⟨HF, 0, Option.none⟩) nf nf)
  c19 : w.cell? ⟨K, 19, Option.none⟩ = some (.pointer (some ⟨RB, 0, Option.none⟩))
  zb : ZeroB HB nb w
  lt : HB < w.heap.size

section
variable {K HB HF nb nf n RB : Nat} {w w' : World}
theorem PickAt.below (h : PickAt K HB HF nb nf n RB w) (hb : Below w.heap.size w w') : PickAt K HB HF nb nf n RB w' :=
  ⟨cell_below hb h.c4, cell_below hb h.c5, cell_below hb h.c6, cell_below hb h.c7, cell_below hb h.c19, fun j hj => cell_below hb (h.zb j hj), Nat.lt_of_lt_of_le h.lt hb.size⟩
theorem PickAt.klt (h : PickAt K HB HF nb nf n RB w) : K < w.heap.size := World.block_lt_of_cell? w _ h.c4
theorem PickAt.upd {R : Addr → Prop} (h : PickAt K HB HF nb nf n RB w) (hu : Upd R w w') (hR : ∀ p, R p → p.block ≠ K ∧ p.block ≠ HB) : PickAt K HB HF nb nf n RB w' :=
  have c : ∀ k, w'.cell? ⟨K, k, Option.none⟩ = w.cell? ⟨K, k, Option.none⟩ := fun k => hu.cell _ h.klt (fun e => (hR _ e).1 rfl)
  ⟨(c 4).trans h.c4, (c 5).trans h.c5, (c 6).trans h.c6, (c 7).trans h.c7, (c 19).trans h.c19, fun j hj => (hu.cell _ h.lt (fun e => (hR _ e).2 rfl)).trans (h.zb j hj), Nat.lt_of_lt_of_le h.lt hu.size⟩
theorem PickAt.other (h : PickAt K HB HF nb nf n RB w) {p : Addr} (hp : p.block ≠ K ∧ p.block ≠ HB) (u : Value) : PickAt K HB HF nb nf n RB (w.setCell p u) :=
  h.upd (Upd.set (Q := fun q => q = p) (Upd.refl _ w) rfl u) (fun q hq => by rw [hq]; exact hp)
end

/-- z is none of the blocks of a rarity and its generator. -/
def Off (P RB OB PB GB SB Q z : Nat) : Prop := z ≠ P ∧ z ≠ RB ∧ z ≠ OB ∧ z ≠ PB ∧ z ≠ GB ∧ z ≠ SB ∧ z ≠ Q

/-- What ZZnewPicker answers. -/
def RetPicker (w : World) (nb nf n : Nat) (e : Ending) (w' : World) : Prop :=
  ∃ K HB HF RB Q P OB PB GB SB order pos group, e = .returned (.pointer (some ⟨K, 0, Option.none⟩)) ∧ PickAt K HB HF nb nf n RB w' ∧ RarH RB Q P OB PB GB SB n 3 3 order pos group (st0 n) w' ∧ Inv n 3 order pos group (st0 n) ∧ (∀ j, j < n → group j = 1) ∧
    (w.heap.size ≤ K ∧ w.heap.size ≤ HB ∧ w.heap.size ≤ RB ∧ w.heap.size ≤ Q ∧ w.heap.size ≤ P ∧ w.heap.size ≤ OB ∧ w.heap.size ≤ PB ∧ w.heap.size ≤ GB ∧ w.heap.size ≤ SB) ∧ Off P RB OB PB GB SB Q K ∧ Off P RB OB PB GB SB Q HB ∧ Below w.heap.size w w'

set_option maxHeartbeats 2000000 in
theorem newPicker_c (n nb nf s1 s2 : Nat) (h1 : s1 < 18446744073709551616) (h2 : s2 < 18446744073709551616) (hn : n ≤ 65536) (hnb : nb = (n + 7) / 8) (hnf : nf = (nb + 63) / 64) (w : World) :
    Calls Try.prog 19 #[.int .i64 (n : Int), .int .u64 (s1 : Int), .int .u64 (s2 : Int)] w fun e w' => RetPicker w nb nf n e w' := by
  have C35 : Hid (∀ w, Calls Try.prog 35 #[.int .i64 (n : Int)] w fun e w' => RetBits w nb nf n e w') := fun w => by subst hnf; subst hnb; exact newBits_c n hn w
  have C33 : Hid (∀ w, Calls Try.prog 33 #[.int .u64 (s1 : Int), .int .u64 (s2 : Int)] w fun e w' => e = .returned (.pointer (some ⟨w.heap.size, 0, Option.none⟩)) ∧ w' = w.alloc (.cells #[.int .u64 (s1 : Int), .int .u64 (s2 : Int)] 78)) := fun w => newPCG_c s1 s2 h1 h2 w
  have C32 : Hid (∀ P w, Calls Try.prog 32 #[.iface 52 (.pointer (some ⟨P, 0, Option.none⟩))] w fun e w' => e = .returned (.pointer (some ⟨w.heap.size, 0, Option.none⟩)) ∧ w' = w.alloc (.cells #[.iface 52 (.pointer (some ⟨P, 0, Option.none⟩))] 76)) := fun P w => newRand_c _ P rfl w
  have C31 : Hid (∀ Q P w, RndH w Q P w → P < w.heap.size → Q < w.heap.size → Calls Try.prog 31 #[.int .i64 (n : Int), .pointer (some ⟨Q, 0, Option.none⟩)] w fun e w' => RetNewR w Q P n e w') := fun Q P w h hP hQ => newr_c Q P n hn w h hP hQ
  have HS : Hid (s1 < 18446744073709551616 ∧ s2 < 18446744073709551616) := ⟨h1, h2⟩
  clear h1 h2 hnb hnf hn
  go_enter Try.func19, Try.ntmps19
  go_wp2_with fail
  refine (C33.out _).mono ?_
  rintro e w1 ⟨rfl, e1⟩
  obtain ⟨P, hP⟩ : ∃ P, P = w.heap.size := ⟨_, rfl⟩
  rw [← hP]
  have H1 : Hid (P = w.heap.size ∧ w1 = w.alloc (.cells #[.int .u64 (s1 : Int), .int .u64 (s2 : Int)] 78)) := ⟨hP, e1⟩
  clear hP e1
  go_wp2_with fail
  refine (C32.out _ _).mono ?_
  rintro e w2 ⟨rfl, e2⟩
  obtain ⟨Q, hQ⟩ : ∃ Q, Q = w1.heap.size := ⟨_, rfl⟩
  rw [← hQ]
  have H2 : Hid (Q = w1.heap.size ∧ w2 = w1.alloc (.cells #[.iface 52 (.pointer (some ⟨P, 0, Option.none⟩))] 76)) := ⟨hQ, e2⟩
  clear hQ e2
  go_wp2_with fail
  refine (C35.out _).mono ?_
  rintro e w3 ⟨BB1, FB1, rfl, k1⟩
  have H3 : Hid (KRow .u8 BB1 nb w3 ∧ KRow .u64 FB1 nf w3 ∧ ZeroB BB1 nb w3 ∧ w2.heap.size ≤ BB1 ∧ w2.heap.size ≤ FB1 ∧ BB1 ≠ FB1 ∧ Below w2.heap.size w2 w3) := k1
  clear k1
  go_wp2_with fail
  refine (C35.out _).mono ?_
  rintro e w4 ⟨BB2, FB2, rfl, k1⟩
  have H4 : Hid (Below w3.heap.size w3 w4) := k1.2.2.2.2.2.2
  clear k1
  go_wp2_with fail
  refine (C35.out _).mono ?_
  rintro e w5 ⟨BB3, FB3, rfl, k1⟩
  have H5 : Hid (Below w4.heap.size w4 w5) := k1.2.2.2.2.2.2
  clear k1
  have mk62 := run_makeMap (P := Try.prog) 62 w5
  go_wp2_with fail
  have HW : Hid (RndH (w5.alloc (.map #[] 0)) Q P (w5.alloc (.map #[] 0)) ∧ P < (w5.alloc (.map #[] 0)).heap.size ∧ Q < (w5.alloc (.map #[] 0)).heap.size ∧ KRow .u8 BB1 nb (w5.alloc (.map #[] 0)) ∧ ZeroB BB1 nb (w5.alloc (.map #[] 0)) ∧ P = w.heap.size ∧ Q = P + 1 ∧ Q < BB1 ∧ BB1 < (w5.alloc (.map #[] 0)).heap.size ∧ Below w.heap.size w (w5.alloc (.map #[] 0))) := by
    obtain ⟨a1, a2⟩ := H1.out
    obtain ⟨b1, b2⟩ := H2.out
    obtain ⟨k1, k2, k3, k4, k5, k6, k7⟩ := H3.out
    have x1 := H4.out; have x2 := H5.out
    have s1' : w1.heap.size = w.heap.size + 1 := by rw [a2]; simp
    have s2' : w2.heap.size = w1.heap.size + 1 := by rw [b2]; simp
    have y1 : Below w1.heap.size w1 w2 := by rw [b2]; exact blk_alloc _ _
    have y0 : Below w.heap.size w w1 := by rw [a2]; exact blk_alloc _ _
    have z5 := blk_alloc w5 (.map #[] 0)
    have q0 : w2.cell? ⟨Q, 0, Option.none⟩ = some (.iface 52 (.pointer (some ⟨P, 0, Option.none⟩))) := by rw [b2, b1]; simp [go_sem]
    have p0 : Pst P (s1 : Nat) (s2 : Nat) w1 := by rw [a2, a1]; exact ⟨by simp [go_sem], by simp [go_sem], by simp [go_sem], by simp [go_sem]⟩
    have q1 := cell_below z5 (cell_below x2 (cell_below x1 (cell_below k7 q0)))
    have p1 := ((((p0.below y1).below k7).below x1).below x2).below z5
    have r1 := ((k1.below x1).below x2).below z5
    have t1 : ∀ {a b : World}, Below a.heap.size a b → a.heap.size ≤ b.heap.size := fun h => h.size
    have m3 := k7.size; have m4 := x1.size; have m5 := x2.size
    have m6 : (w5.alloc (.map #[] 0)).heap.size = w5.heap.size + 1 := by simp
    have r2 := r1.lt
    refine ⟨⟨q1, ⟨_, s1, s2, rfl, HS.out.1, HS.out.2, p1⟩, by omega, Upd.refl _ _⟩, by omega, by omega, r1, fun j hj => cell_below z5 (cell_below x2 (cell_below x1 (k3 j hj))), a1, by omega, by omega, r2, ?_⟩
    exact ((((y0.trans (y1.mono (by omega))).trans (k7.mono (by omega))).trans (x1.mono (by omega))).trans (x2.mono (by omega))).trans (z5.mono (by omega))
  refine (C31.out _ P _ HW.out.1 HW.out.2.1 HW.out.2.2.1).mono ?_
  rintro e w6 ⟨RB, OB, PB, GB, SB, order, pos, group, rfl, k1⟩
  have H6 : Hid (RarH RB Q P OB PB GB SB n 3 3 order pos group (st0 n) w6 ∧ Inv n 3 order pos group (st0 n) ∧ (∀ j, j < n → group j = 1) ∧ ((w5.alloc (.map #[] 0)).heap.size ≤ RB ∧ (w5.alloc (.map #[] 0)).heap.size ≤ OB ∧ (w5.alloc (.map #[] 0)).heap.size ≤ PB ∧ (w5.alloc (.map #[] 0)).heap.size ≤ GB ∧ (w5.alloc (.map #[] 0)).heap.size ≤ SB) ∧ UpdN (w5.alloc (.map #[] 0)) P w6) := k1
  clear k1
  have mk63 := run_makeMap (P := Try.prog) 63 w6
  go_wp2_with fail
  simp [bodyPost, results, Try.results19, go_sem]
  clear mk62 mk63
  obtain ⟨g1, g2, g3, g4, g5, g6, g7, g8, g9, g10⟩ := HW.out
  obtain ⟨f1, f2, f3, ⟨f4, f5, f6, f7, f8⟩, f9⟩ := H6.out
  have u9 : Upd (fun p => p.block = P) (w5.alloc (.map #[] 0)) w6 := f9
  have b1 : Below w6.heap.size w6 (w6.alloc (.map #[] 0)) := blk_alloc _ _
  have sz : (w6.alloc (.map #[] 0)).heap.size = w6.heap.size + 1 := by simp
  have hz6 : ZeroB BB1 nb w6 := fun j hj => (u9.cell _ g9 (by intro e; have e' : BB1 = P := e; omega)).trans (g5 j hj)
  have l1 := u9.size
  have lr : RB < w6.heap.size := World.block_lt_of_cell? _ _ f1.r.q
  have lo := f1.r.ro.lt; have lp := f1.r.rp.lt; have lg := f1.r.rg.lt; have ls := f1.r.rs.lt
  obtain ⟨o, ho⟩ : ∃ o, o = Obj.cells #[Value.int IntKind.i64 0, Value.int IntKind.i64 0, Value.int IntKind.i64 0,
          Value.pointer (some ⟨Q, 0, Option.none⟩), Value.slice (some ⟨BB1, 0, Option.none⟩) nb nb,
          Value.int IntKind.i64 n, Value.int IntKind.i64 0, Value.slice (some ⟨FB1, 0, Option.none⟩) nf nf,
          Value.slice (some ⟨BB2, 0, Option.none⟩) nb nb, Value.int IntKind.i64 n, Value.int IntKind.i64 0,
          Value.slice (some ⟨FB2, 0, Option.none⟩) nf nf, Value.slice (some ⟨BB3, 0, Option.none⟩) nb nb,
          Value.int IntKind.i64 n, Value.int IntKind.i64 0, Value.slice (some ⟨FB3, 0, Option.none⟩) nf nf,
          Value.slice none 0 0, Value.map (some w5.heap.size), Value.int IntKind.i64 (-1),
          Value.pointer (some ⟨RB, 0, Option.none⟩), Value.map (some w6.heap.size)] 68 := ⟨_, rfl⟩
  rw [← ho]
  have b2 : Below (w6.alloc (.map #[] 0)).heap.size (w6.alloc (.map #[] 0)) ((w6.alloc (.map #[] 0)).alloc o) := blk_alloc _ _
  have bb := b1.trans (b2.mono (by omega))
  refine ⟨w6.heap.size + 1, BB1, FB1, RB, Q, P, OB, PB, GB, SB, order, pos, group, rfl, ⟨?_, ?_, ?_, ?_, ?_, fun j hj => cell_below bb (hz6 j hj), by simp; omega⟩, f1.below bb, f2, f3, ⟨by omega, by omega, by omega, by omega, by omega, by omega, by omega, by omega, by omega⟩, ⟨by omega, by omega, by omega, by omega, by omega, by omega, by omega⟩, ⟨by omega, by omega, by omega, by omega, by omega, by omega, by omega⟩, ?_⟩
  · rw [ho]; simp [go_sem]
  · rw [ho]; simp [go_sem]
  · rw [ho]; simp [go_sem]
  · rw [ho]; simp [go_sem]
  · rw [ho]; simp [go_sem]
  · have lw := u9.low w.heap.size (fun p hp => by have e : p.block = P := hp; omega) (by omega)
    exact (g10.trans lw).trans (bb.mono (by omega))

set_option maxHeartbeats 1000000 in
theorem rarityOf_c (K RB : Nat) (w : World) (h : w.cell? ⟨K, 19, Option.none⟩ = some (.pointer (some ⟨RB, 0, Option.none⟩))) :
    Calls Try.prog 25 #[.pointer (some ⟨K, 0, Option.none⟩)] w fun e w' => e = .returned (.pointer (some ⟨RB, 0, Option.none⟩)) ∧ w' = w := by
  go_enter Try.func25, Try.ntmps25
  go_wp2_with fail
  go_ret
  exact ⟨rfl, rfl⟩

set_option maxHeartbeats 1000000 in
theorem orderOf_c (RB : Nat) (v : Option Addr) (L C : Nat) (w : World) (h : w.cell? ⟨RB, 1, Option.none⟩ = some (.slice v L C)) :
    Calls Try.prog 13 #[.pointer (some ⟨RB, 0, Option.none⟩)] w fun e w' => e = .returned (.slice v L C) ∧ w' = w := by
  go_enter Try.func13, Try.ntmps13
  go_wp2_with fail
  go_ret
  exact ⟨rfl, rfl⟩

set_option maxHeartbeats 1000000 in
theorem posOf_c (RB : Nat) (v : Option Addr) (L C : Nat) (w : World) (h : w.cell? ⟨RB, 2, Option.none⟩ = some (.slice v L C)) :
    Calls Try.prog 14 #[.pointer (some ⟨RB, 0, Option.none⟩)] w fun e w' => e = .returned (.slice v L C) ∧ w' = w := by
  go_enter Try.func14, Try.ntmps14
  go_wp2_with fail
  go_ret
  exact ⟨rfl, rfl⟩

set_option maxHeartbeats 1000000 in
theorem groupOf_c (RB : Nat) (v : Option Addr) (L C : Nat) (w : World) (h : w.cell? ⟨RB, 3, Option.none⟩ = some (.slice v L C)) :
    Calls Try.prog 11 #[.pointer (some ⟨RB, 0, Option.none⟩)] w fun e w' => e = .returned (.slice v L C) ∧ w' = w := by
  go_enter Try.func11, Try.ntmps11
  go_wp2_with fail
  go_ret
  exact ⟨rfl, rfl⟩

set_option maxHeartbeats 1000000 in
theorem startOf_c (RB : Nat) (v : Option Addr) (L C : Nat) (w : World) (h : w.cell? ⟨RB, 4, Option.none⟩ = some (.slice v L C)) :
    Calls Try.prog 15 #[.pointer (some ⟨RB, 0, Option.none⟩)] w fun e w' => e = .returned (.slice v L C) ∧ w' = w := by
  go_enter Try.func15, Try.ntmps15
  go_wp2_with fail
  go_ret
  exact ⟨rfl, rfl⟩

end Go.Proofs.Qxb6616210a
