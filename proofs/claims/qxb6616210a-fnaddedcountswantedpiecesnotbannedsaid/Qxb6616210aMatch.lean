import Derived.Test.Qxb6616210aVRow
import Derived.Deep.RegionHeld3
namespace Go.Proofs.Qxb6616210a
open Go.RowKit
set_option linter.unusedVariables false
set_option linter.unusedSimpArgs false
set_option maxRecDepth 100000

/-- The five rows that zzRarityMatches reads. -/
structure MRows (OB PB GB SB CB n L : Nat) (order pos group start cnt : Nat → Nat) (w0 w : World) : Prop where
  o : NRow OB n order w
  p : NRow PB n pos w
  g : NRow GB n group w
  s : NRow SB L start w
  c : NRow CB n cnt w
  b : Below w0.heap.size w0 w

theorem MRows.below {OB PB GB SB CB n L : Nat} {order pos group start cnt : Nat → Nat} {w0 w w' : World} (h : MRows OB PB GB SB CB n L order pos group start cnt w0 w) (hb : Below w.heap.size w w') : MRows OB PB GB SB CB n L order pos group start cnt w0 w' :=
  ⟨h.o.below hb, h.p.below hb, h.g.below hb, h.s.below hb, h.c.below hb, h.b.trans (hb.mono h.b.size)⟩
theorem MRows.drewN {OB PB GB SB CB n L : Nat} {order pos group start cnt : Nat → Nat} {w0 w : World} (h : MRows OB PB GB SB CB n L order pos group start cnt w0 w) (k : Nat) : MRows OB PB GB SB CB n L order pos group start cnt w0 (w.drewN k) := h.below (below_drewN (Below.refl _ _) k)

/-- .. and whose blocks stand below a mark. -/
structure MLow (OB PB GB SB CB N : Nat) : Prop where
  o : OB < N
  p : PB < N
  g : GB < N
  s : SB < N
  c : CB < N

theorem MRows.set {OB PB GB SB CB n L : Nat} {order pos group start cnt : Nat → Nat} {w0 w : World} (h : MRows OB PB GB SB CB n L order pos group start cnt w0 w) (hl : MLow OB PB GB SB CB w0.heap.size) {B : Nat} (hB : w0.heap.size ≤ B) (k : Nat) (u : Value) : MRows OB PB GB SB CB n L order pos group start cnt w0 (w.setCell ⟨B, k, Option.none⟩ u) :=
  have h1 := hl.o; have h2 := hl.p; have h3 := hl.g; have h4 := hl.s; have h5 := hl.c
  ⟨h.o.other (p := ⟨B, k, Option.none⟩) (by show B ≠ OB; omega) u, h.p.other (p := ⟨B, k, Option.none⟩) (by show B ≠ PB; omega) u, h.g.other (p := ⟨B, k, Option.none⟩) (by show B ≠ GB; omega) u, h.s.other (p := ⟨B, k, Option.none⟩) (by show B ≠ SB; omega) u, h.c.other (p := ⟨B, k, Option.none⟩) (by show B ≠ CB; omega) u, h.b.setCell (by show w0.heap.size ≤ B; omega) u⟩

set_option maxHeartbeats 8000000 in
theorem match_c (OB PB GB SB CB n L C : Nat) (order pos group start cnt : Nat → Nat) (hn : n ≤ 65536) (hL : L ≤ 65536) (hL3 : 3 ≤ L) (hI : Inv n L order pos group start) (hc : ∀ j, j < n → group j = cnt j + 1) (w : World)
    (h : MRows OB PB GB SB CB n L order pos group start cnt w w) :
    Calls Try.prog 12 #[.int .i64 (n : Int), .slice (some ⟨OB, 0, Option.none⟩) n n, .slice (some ⟨PB, 0, Option.none⟩) n n, .slice (some ⟨GB, 0, Option.none⟩) n n, .slice (some ⟨SB, 0, Option.none⟩) L C, .slice (some ⟨CB, 0, Option.none⟩) n n] w fun e w' => e = .returned (.bool true) ∧ Below w.heap.size w w' := by
  have HL : Hid (L = mx cnt n + 3 ∧ MLow OB PB GB SB CB w.heap.size) := ⟨mx_len hI hL3 hc, ⟨h.o.lt, h.p.lt, h.g.lt, h.s.lt, h.c.lt⟩⟩
  have HI : Hid (Inv0 n L order pos group start ∧ (∀ j, j < n → group j = cnt j + 1) ∧ n ≤ 65536 ∧ L ≤ 65536 ∧ 3 ≤ L) := ⟨hI.i, hc, hn, hL, hL3⟩
  obtain ⟨ob, hob, hmk⟩ := mk39 n (by omega)
  obtain ⟨oh, hoh, hmh⟩ := mk23 L (by omega)
  have HOB : Hid (MadeOf (.bool false) n ob ∧ MadeOf (.int .i64 0) L oh) := ⟨hob, hoh⟩
  have hcb : Hid (∀ j, j < n → cnt j ≤ 65536) := fun j hj => by have := hI.i.g j hj; have := hc j hj; omega
  have HM : Hid (MRows OB PB GB SB CB n L order pos group start cnt w w) := h
  clear hI hc hL3 hob hoh h
  go_enter Try.func12, Try.ntmps12
  go_wp2_with fail
  go_loopg [13, 14] n (fun gk s13 s14 wx => ∃ k : Nat, s14 = .int .i64 (k : Int) ∧ s13 = .int .i64 (mx cnt k : Int) ∧ k ≤ n ∧ gk = n - k ∧ wx = w)
  case atStart => exact ⟨0, rfl, rfl, Nat.zero_le _, rfl, rfl⟩
  case round =>
    obtain ⟨k, rfl, rfl, hk, hgk, rfl⟩ := hrel
    by_cases hlt : k < n
    · have i1 : (k : Int) < (n : Int) := by omega
      have ck := HM.out.c.c k hlt
      obtain ⟨y, hy⟩ : ∃ y, cnt k = y := ⟨_, rfl⟩
      obtain ⟨z, hz⟩ : ∃ z, mx cnt k = z := ⟨_, rfl⟩
      rw [hy] at ck
      rw [hz]
      have hm : mx cnt (k + 1) = if z < y then y else z := by show (if mx cnt k < cnt k then cnt k else mx cnt k) = _; rw [hy, hz]
      by_cases hyz : z < y
      · have i2 : (z : Int) < (y : Int) := by omega
        have HX : Hid (mx cnt (k + 1) = y) := by show mx cnt (k + 1) = y; rw [hm, if_pos hyz]
        clear hm hy hz
        go_wp2_with fail
        go_roundg (n - (k + 1))
        case measure => omega
        case rel => exact ⟨k + 1, by go_num, by rw [HX.out], by omega, rfl, rfl⟩
      · have i2 : ¬ (z : Int) < (y : Int) := by omega
        have HX : Hid (mx cnt (k + 1) = z) := by show mx cnt (k + 1) = z; rw [hm, if_neg hyz]
        clear hm hy hz
        go_wp2_with fail
        go_roundg (n - (k + 1))
        case measure => omega
        case rel => exact ⟨k + 1, by go_num, by rw [HX.out], by omega, rfl, rfl⟩
    · have i1 : ¬ (k : Int) < (n : Int) := by omega
      obtain rfl : n = k := by omega
      obtain ⟨z, hz⟩ : ∃ z, mx cnt n = z := ⟨_, rfl⟩
      rw [hz]
      have e1 : IntKind.i64.wrap ((z : Int) + 3) = (L : Int) := by
        have := HL.out.1; have := HI.out.2.2.2.1
        rw [IntKind.wrap_i64]; omega
      have HM0 : Aside (MRows OB PB GB SB CB n L order pos group start cnt wr wr) := HM.out
      obtain ⟨w, hw⟩ : ∃ w, w = wr := ⟨_, rfl⟩
      rw [← hw] at HM HL
      rw [show MRows OB PB GB SB CB n L order pos group start cnt wr wr = MRows OB PB GB SB CB n L order pos group start cnt w wr by rw [hw]] at HM0
      clear hz hgk i1 hlt hk
      go_wp2_with fail
      go_loopg [15] n (fun gk s15 wx => ∃ k : Nat, s15 = .int .i64 (k : Int) ∧ k ≤ n ∧ gk = n - k ∧ Aside (MRows OB PB GB SB CB n L order pos group start cnt w wx))
      case atStart => exact ⟨0, rfl, Nat.zero_le _, rfl, HM0⟩
      case round =>
        obtain ⟨k, rfl, hk, hgk, HJ⟩ := hrel
        clear HM0 e1
        by_cases hlt : k < n
        · have i1 : (k : Int) < (n : Int) := by omega
          have ck := HJ.out.c.c k hlt
          have gk' := HJ.out.g.c k hlt
          obtain ⟨y, hy⟩ : ∃ y, cnt k = y := ⟨_, rfl⟩
          obtain ⟨g, hg⟩ : ∃ g, group k = g := ⟨_, rfl⟩
          rw [hy] at ck
          rw [hg] at gk'
          have e2 : IntKind.i64.wrap ((y : Int) + 1) = (g : Int) := by
            have := HI.out.2.1 k hlt; have := hcb.out k hlt
            rw [IntKind.wrap_i64]; omega
          clear hy hg
          go_wp2_with fail
          go_quiet (fail)
          go_wp2_with fail
          go_roundg (n - (k + 1))
          case measure => omega
          case rel => exact ⟨k + 1, by go_num, by omega, rfl, HJ.out.drewN _⟩
        · have i1 : ¬ (k : Int) < (n : Int) := by omega
          obtain rfl : n = k := by omega
          have H3 : Aside (MRows OB PB GB SB CB n L order pos group start cnt w (wr.alloc ob) ∧ VRow wr.heap.size n (fun v => .bool (decide (pos v < 0))) (wr.alloc ob)) := by
            refine ⟨HJ.out.below ((Below.refl _ _).alloc (Nat.le_refl _) _), ?_⟩
            refine (VRow.made HOB.out.1 wr).congr (fun v hv => ?_)
            rw [decide_eq_false (by omega)]
          obtain ⟨EB, hE⟩ : ∃ EB, EB = wr.heap.size := ⟨_, rfl⟩
          have HE : Hid (w.heap.size ≤ EB) := by show w.heap.size ≤ EB; rw [hE]; exact HJ.out.b.size
          have hmk' := hmk wr
          rw [← hE] at H3 hmk'
          obtain ⟨w3, hw3⟩ : ∃ w3, w3 = wr.alloc ob := ⟨_, rfl⟩
          rw [← hw3] at H3 hmk'
          clear hgk i1 hlt hk hmk HJ hw3 hE
          go_wp2_with fail
          clear hmk'
          go_loopg [17, 18] n (fun gk s17 s18 wx => ∃ k : Nat, s17 = .int .i64 (k : Int) ∧ k ≤ n ∧ gk = n - k ∧ Aside (MRows OB PB GB SB CB n L order pos group start cnt w wx ∧ VRow EB n (fun v => .bool (decide (pos v < k))) wx))
          case atStart => exact ⟨0, rfl, Nat.zero_le _, rfl, H3⟩
          case round =>
            obtain ⟨k, rfl, hk, hgk, HJ⟩ := hrel
            clear H3
            by_cases hlt : k < n
            · have i1 : (k : Int) < (n : Int) := by omega
              have ok := HJ.out.1.o.c k hlt
              obtain ⟨v, hv⟩ : ∃ v, order k = v := ⟨_, rfl⟩
              rw [hv] at ok
              have hov := HI.out.1.o k hlt
              rw [hv] at hov
              obtain ⟨hvn, hpv⟩ := hov
              have i2 : (v : Int) < (n : Int) := by omega
              have i3 : ¬ (n : Int) ≤ (v : Int) := by omega
              have pv := HJ.out.1.p.c v hvn
              rw [hpv] at pv
              have sv := HJ.out.2.c v hvn
              rw [hpv, decide_eq_false (Nat.lt_irrefl k)] at sv
              have zv := HJ.out.2.z v
              have neE : EB ≠ PB := by have := HL.out.2.p; have := HE.out; omega
              have neE' : PB ≠ EB := Ne.symm neE
              have HN : Aside (MRows OB PB GB SB CB n L order pos group start cnt w (wr.setCell ⟨EB, v, Option.none⟩ (.bool true)) ∧ VRow EB n (fun u => .bool (decide (pos u < k + 1))) (wr.setCell ⟨EB, v, Option.none⟩ (.bool true))) := by
                refine ⟨HJ.out.1.set HL.out.2 HE.out _ _, (HJ.out.2.set hvn (.bool true)).congr (fun u hu => ?_)⟩
                by_cases e : u = v
                · subst e; rw [upd_same, hpv, decide_eq_true (by omega)]
                · rw [upd_other _ _ _ e]
                  have hne : pos u ≠ k := fun h2 => e (by rw [← (HI.out.1.p u hu).2, h2, hv])
                  by_cases h3 : pos u < k
                  · rw [decide_eq_true h3, decide_eq_true (by omega)]
                  · rw [decide_eq_false h3, decide_eq_false (by omega)]
              clear hv hpv hvn
              go_wp2_with fail
              go_roundg (n - (k + 1))
              case measure => omega
              case rel => exact ⟨k + 1, by go_num, by omega, rfl, HN⟩
            · have i1 : ¬ (k : Int) < (n : Int) := by omega
              obtain rfl : n = k := by omega
              have H4 : Aside (MRows OB PB GB SB CB n L order pos group start cnt w (wr.alloc oh) ∧ NRow wr.heap.size L (fun g => cntEq group g 0) (wr.alloc oh)) :=
                ⟨HJ.out.1.below ((Below.refl _ _).alloc (Nat.le_refl _) _), nrow_made HOB.out.2 wr⟩
              obtain ⟨TB, hT⟩ : ∃ TB, TB = wr.heap.size := ⟨_, rfl⟩
              have HT : Hid (w.heap.size ≤ TB) := by show w.heap.size ≤ TB; rw [hT]; exact HJ.out.1.b.size
              have hmh' := hmh wr
              rw [← hT] at H4 hmh'
              obtain ⟨w4, hw4⟩ : ∃ w4, w4 = wr.alloc oh := ⟨_, rfl⟩
              rw [← hw4] at H4 hmh'
              clear hgk i1 hlt hk hmh HJ hw4 hT
              go_wp2_with fail
              clear hmh'
              go_loopg [21] n (fun gk s21 wx => ∃ k : Nat, s21 = .int .i64 (k : Int) ∧ k ≤ n ∧ gk = n - k ∧ Aside (MRows OB PB GB SB CB n L order pos group start cnt w wx ∧ NRow TB L (fun g => cntEq group g k) wx))
              case atStart => exact ⟨0, rfl, Nat.zero_le _, rfl, H4⟩
              case round =>
                obtain ⟨k, rfl, hk, hgk, HJ⟩ := hrel
                clear H4
                by_cases hlt : k < n
                · have i1 : (k : Int) < (n : Int) := by omega
                  have gk' := HJ.out.1.g.c k hlt
                  obtain ⟨g, hg⟩ : ∃ g, group k = g := ⟨_, rfl⟩
                  rw [hg] at gk'
                  have hgL : g < L := by have := HI.out.1.g k hlt; omega
                  have i2 : (g : Int) < (L : Int) := by omega
                  have tg := HJ.out.2.c g hgL
                  have zg := HJ.out.2.z g
                  obtain ⟨y, hy⟩ : ∃ y, cntEq group g k = y := ⟨_, rfl⟩
                  rw [hy] at tg
                  obtain ⟨y1, hy1⟩ : ∃ y1 : Nat, IntKind.i64.wrap ((y : Int) + 1) = (y1 : Int) := ⟨y + 1, by have := cntEq_le group g k; rw [IntKind.wrap_i64]; omega⟩
                  have HN : Aside (MRows OB PB GB SB CB n L order pos group start cnt w (wr.setCell ⟨TB, g, Option.none⟩ (.int .i64 (y1 : Int))) ∧ NRow TB L (fun g => cntEq group g (k + 1)) (wr.setCell ⟨TB, g, Option.none⟩ (.int .i64 (y1 : Int)))) := by
                    refine ⟨HJ.out.1.set HL.out.2 HT.out _ _, ?_⟩
                    have hy1' : y1 = y + 1 := by have := cntEq_le group g k; rw [IntKind.wrap_i64] at hy1; omega
                    rw [cntEq_upd, hg, hy, hy1']
                    exact HJ.out.2.set hgL (y + 1)
                  clear hg hy hgL
                  go_wp2_with fail
                  go_roundg (n - (k + 1))
                  case measure => omega
                  case rel => exact ⟨k + 1, by go_num, by omega, rfl, HN⟩
                · have i1 : ¬ (k : Int) < (n : Int) := by omega
                  obtain rfl : n = k := by omega
                  clear hgk i1 hlt hk
                  go_wp2_with fail
                  go_loopg [22, 23] L (fun gk s22 s23 wx => ∃ g b : Nat, s23 = .int .i64 (g : Int) ∧ s22 = .int .i64 (b : Int) ∧ g ≤ L ∧ gk = L - g ∧ wx = wr ∧ Hid (b = cntLt group g n))
                  case atStart => exact ⟨0, 0, rfl, rfl, Nat.zero_le _, rfl, rfl, (cntLt_zero group n).symm⟩
                  case round =>
                    obtain ⟨g, b, rfl, rfl, hg, hgk, hwr, HBL⟩ := hrel
                    subst hwr
                    by_cases hlt : g < L
                    · have i1 : (g : Int) < (L : Int) := by omega
                      have sg := HJ.out.1.s.c g hlt
                      rw [HI.out.1.s g hlt, ← HBL.out] at sg
                      have tg := HJ.out.2.c g hlt
                      obtain ⟨y, hy⟩ : ∃ y, cntEq group g n = y := ⟨_, rfl⟩
                      rw [hy] at tg
                      obtain ⟨b1, hb1⟩ : ∃ b1 : Nat, IntKind.i64.wrap ((b : Int) + (y : Int)) = (b1 : Int) := ⟨b + y, by have := cntEq_le group g n; have := cntLt_le group g n; have := HBL.out; rw [IntKind.wrap_i64]; omega⟩
                      have HB1 : Hid (b1 = cntLt group (g + 1) n) := by
                        show b1 = cntLt group (g + 1) n
                        have := cntEq_le group g n; have := cntLt_le group g n; have := HBL.out
                        rw [IntKind.wrap_i64] at hb1
                        rw [cntLt_succ, hy]; omega
                      clear hy
                      go_wp2_with fail
                      go_roundg (L - (g + 1))
                      case measure => omega
                      case rel => exact ⟨g + 1, b1, by go_num, rfl, by omega, rfl, rfl, HB1.out⟩
                    · have i1 : ¬ (g : Int) < (L : Int) := by omega
                      obtain ⟨w6, hw6⟩ : ∃ w6, w6 = wr := ⟨_, rfl⟩
                      have H6 : Aside (MRows OB PB GB SB CB n L order pos group start cnt w wr) := HJ.out.1
                      clear hgk HBL HJ
                      go_wp2_with fail
                      go_loopg [24, 25] n (fun gk s24 s25 wx => ∃ k : Nat, s24 = .int .i64 (k : Int) ∧ k ≤ n ∧ gk = n - k ∧ Aside (MRows OB PB GB SB CB n L order pos group start cnt w wx))
                      case atStart => exact ⟨0, rfl, Nat.zero_le _, rfl, H6⟩
                      case round =>
                        obtain ⟨k, rfl, hk, hgk, HJ⟩ := hrel
                        clear H6
                        by_cases hlt : k < n
                        · have i1 : (k : Int) < (n : Int) := by omega
                          have gk' := HJ.out.g.c k hlt
                          have pk := HJ.out.p.c k hlt
                          obtain ⟨q, hq⟩ : ∃ q, group k = q := ⟨_, rfl⟩
                          obtain ⟨x, hx⟩ : ∃ x, pos k = x := ⟨_, rfl⟩
                          have hgg := HI.out.1.g k hlt
                          have haa := HI.out.1.a k hlt
                          rw [hq] at gk' hgg haa
                          rw [hx] at pk haa
                          have sq := HJ.out.s.c q (by omega)
                          have sq1 := HJ.out.s.c (q + 1) (by omega)
                          obtain ⟨a, ha⟩ : ∃ a, start q = a := ⟨_, rfl⟩
                          obtain ⟨b', hb'⟩ : ∃ b', start (q + 1) = b' := ⟨_, rfl⟩
                          rw [ha] at sq haa
                          rw [hb'] at sq1 haa
                          obtain ⟨q1, hq1⟩ : ∃ q1 : Nat, IntKind.i64.wrap ((q : Int) + 1) = (q1 : Int) := ⟨q + 1, by rw [IntKind.wrap_i64]; omega⟩
                          have hq1' : q1 = q + 1 := by rw [IntKind.wrap_i64] at hq1; omega
                          rw [← hq1'] at sq1
                          have i2 : (q : Int) < (L : Int) := by omega
                          have i3 : (q1 : Int) < (L : Int) := by omega
                          have hX : Hid (a ≤ x ∧ x < b') := haa
                          clear hq hx hgg haa ha hb' hq1'
                          go_wp2_with fail
                          have j4 : decide ((x : Int) < (a : Int)) = false := decide_eq_false (by have := hX.out; omega)
                          have j5 : decide ((b' : Int) ≤ (x : Int)) = false := decide_eq_false (by have := hX.out; omega)
                          have j4n : decide (x < a) = false := decide_eq_false (by have := hX.out; omega)
                          have j5n : decide (b' ≤ x) = false := decide_eq_false (by have := hX.out; omega)
                          go_quiet (fail)
                          go_wp2_with fail
                          go_roundg (n - (k + 1))
                          case measure => omega
                          case rel => exact ⟨k + 1, by go_num, by omega, rfl, HJ.out.drewN _⟩
                        · have i1 : ¬ (k : Int) < (n : Int) := by omega
                          go_wp2_with fail
                          go_ret
                          exact ⟨rfl, by rw [← hw]; exact HJ.out.b⟩

end Go.Proofs.Qxb6616210a
