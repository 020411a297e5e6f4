import Derived.Test.Qxb6616210aTurn
import Derived.BigQuiet
namespace Go.Proofs.Qxb6616210a
open Go.RowKit
set_option linter.unusedVariables false
set_option linter.unusedSimpArgs false
set_option maxRecDepth 100000

set_option maxHeartbeats 40000000 in
theorem main_c (a0 a3 : Int) (s1 s2 : Nat) (hs1 : s1 < 18446744073709551616) (hs2 : s2 < 18446744073709551616) (a4 a5 a6 a7 : Option Addr) (l4 c4 l5 c5 l6 c6 l7 c7 : Nat) (z4 z5 z6 z7 : Nat → Int) (w : World)
    (r4 : ArgR a4 l4 z4 w) (r5 : ArgR a5 l5 z5 w) (r6 : ArgR a6 l6 z6 w) (r7 : ArgR a7 l7 z7 w) :
    Calls Try.prog 6 #[.int .i64 a0, .int .u64 (s1 : Int), .int .u64 (s2 : Int), .int .i64 a3, .slice a4 l4 c4, .slice a5 l5 c5, .slice a6 l6 c6, .slice a7 l7 c7] w fun e w' => e = .returned (.bool true) ∧ Below w.heap.size w w' := by
  have R : Hid ((ArgR a4 l4 z4 w ∧ ArgR a5 l5 z5 w) ∧ (ArgR a6 l6 z6 w ∧ ArgR a7 l7 z7 w)) := ⟨⟨r4, r5⟩, r6, r7⟩
  have HS : Hid (s1 < 18446744073709551616 ∧ s2 < 18446744073709551616) := ⟨hs1, hs2⟩
  have C26 : Hid (∀ w, Calls Try.prog 26 #[.int .i64 a0, .int .u64 (s1 : Int), .int .u64 (s2 : Int), .int .i64 a3, .slice a4 l4 c4, .slice a5 l5 c5, .slice a6 l6 c6, .slice a7 l7 c7] w fun e w' => (∃ t, e = .returned (.bool t)) ∧ w' = w) := fun w => bytes_c a0 a3 s1 s2 a4 a5 a6 a7 l4 c4 l5 c5 l6 c6 l7 c7 w
  clear r4 r5 r6 r7 hs1 hs2
  go_enter Try.func6, Try.ntmps6
  go_wp2_with fail
  refine (C26.out _).mono ?_
  rintro e w1 ⟨⟨t, rfl⟩, hw1⟩
  obtain rfl := hw1.symm
  clear C26
  cases t
  case false =>
    go_wp2_with fail
    go_ret
    exact ⟨rfl, Below.refl _ _⟩
  case true =>
  by_cases hT : l4 ≤ 32768 ∧ l5 ≤ 32768 ∧ l6 ≤ 32768 ∧ l7 ≤ 32768 ∧ 0 ≤ a0 ∧ a0 ≤ 65536 ∧ 0 ≤ a3 ∧ a3 ≤ 16 ∧ l4 = l5 ∧ l6 = l7
  case neg =>
    go_wp2_with fail
    all_goals first | (go_ret; exact ⟨rfl, Below.refl _ _⟩) | (exfalso; omega)
  case pos =>
  obtain ⟨t4, t5, t6, t7, n0, n1, m0, m1, rfl, rfl⟩ := hT
  obtain ⟨n, rfl⟩ := Int.eq_ofNat_of_zero_le n0
  obtain ⟨m, rfl⟩ := Int.eq_ofNat_of_zero_le m0
  have hn : n ≤ 65536 := by omega
  have hm : m ≤ 16 := by omega
  clear n0 m0 t5 t7
  go_wp2_with fail
  have HNM : Hid (n ≤ 65536 ∧ m ≤ 16) := ⟨hn, hm⟩
  clear n1 m1 hn hm
  go_loopg [17] l4 (fun gk s17 wx => ∃ k : Nat, s17 = .int .i64 (k : Int) ∧ k ≤ l4 ∧ gk = l4 - k ∧ w = wx ∧ Hid (∀ j, j < k → OkPair m n (z4 j) (z5 j)))
  case atStart => exact ⟨0, rfl, Nat.zero_le _, rfl, rfl, fun j hj => absurd hj (Nat.not_lt_zero j)⟩
  case round =>
  obtain ⟨k, rfl, hk, hgk, rfl, HO⟩ := hrel
  by_cases hlt : k < l4
  case pos =>
    have i1 : (k : Int) < (l4 : Int) := by omega
    obtain ⟨b4, o4, rfl, _, q4⟩ := R.out.1.1 (by omega)
    obtain ⟨b5, o5, rfl, _, q5⟩ := R.out.1.2 (by omega)
    have x4 := q4 k hlt; have x5 := q5 k hlt
    clear q4 q5 R
    have HN : Hid (OkPair m n (z4 k) (z5 k) → ∀ j, j < k + 1 → OkPair m n (z4 j) (z5 j)) := fun h j hj => by
      by_cases e : j = k
      · rw [e]; exact h
      · exact HO.out j (by omega)
    obtain ⟨x, hx⟩ : ∃ x, z4 k = x := ⟨_, rfl⟩
    obtain ⟨y, hy⟩ : ∃ y, z5 k = y := ⟨_, rfl⟩
    rw [hx, hy] at HN
    rw [hx] at x4
    rw [hy] at x5
    clear hx hy
    by_cases hO : OkPair m n x y
    · have HN' := HN.out hO
      have HN2 : Hid (∀ j, j < k + 1 → OkPair m n (z4 j) (z5 j)) := HN'
      obtain ⟨g1, g2, g3, g4⟩ := hO
      clear HN HN'
      go_wp2_with fail
      go_roundg (l4 - (k + 1))
      case measure => omega
      case rel => exact ⟨k + 1, by go_num, by omega, rfl, rfl, HN2.out⟩
    · clear HN
      unfold OkPair at hO
      go_wp2_with fail
      all_goals first | (go_ret; exact ⟨rfl, Below.refl _ _⟩) | (exfalso; omega)
  case neg =>
  have i1 : ¬ (k : Int) < (l4 : Int) := by omega
  obtain rfl : l4 = k := by omega
  clear hgk hlt hk
  go_wp2_with fail
  clear i1
  go_loopg [18] l6 (fun gk s18 wx => ∃ k : Nat, s18 = .int .i64 (k : Int) ∧ k ≤ l6 ∧ gk = l6 - k ∧ w = wx ∧ Hid (∀ j, j < k → OkPair m n (z6 j) (z7 j)))
  case atStart => exact ⟨0, rfl, Nat.zero_le _, rfl, rfl, fun j hj => absurd hj (Nat.not_lt_zero j)⟩
  case round =>
  obtain ⟨k, rfl, hk, hgk, rfl, HP⟩ := hrel
  by_cases hlt : k < l6
  case pos =>
    have i1 : (k : Int) < (l6 : Int) := by omega
    obtain ⟨b4, o4, rfl, _, q4⟩ := R.out.2.1 (by omega)
    obtain ⟨b5, o5, rfl, _, q5⟩ := R.out.2.2 (by omega)
    have x4 := q4 k hlt; have x5 := q5 k hlt
    clear q4 q5 R
    have HN : Hid (OkPair m n (z6 k) (z7 k) → ∀ j, j < k + 1 → OkPair m n (z6 j) (z7 j)) := fun h j hj => by
      by_cases e : j = k
      · rw [e]; exact h
      · exact HP.out j (by omega)
    obtain ⟨x, hx⟩ : ∃ x, z6 k = x := ⟨_, rfl⟩
    obtain ⟨y, hy⟩ : ∃ y, z7 k = y := ⟨_, rfl⟩
    rw [hx, hy] at HN
    rw [hx] at x4
    rw [hy] at x5
    clear hx hy
    by_cases hO : OkPair m n x y
    · have HN' := HN.out hO
      have HN2 : Hid (∀ j, j < k + 1 → OkPair m n (z6 j) (z7 j)) := HN'
      obtain ⟨g1, g2, g3, g4⟩ := hO
      clear HN HN'
      go_wp2_with fail
      go_roundg (l6 - (k + 1))
      case measure => omega
      case rel => exact ⟨k + 1, by go_num, by omega, rfl, rfl, HN2.out⟩
    · clear HN
      unfold OkPair at hO
      go_wp2_with fail
      all_goals first | (go_ret; exact ⟨rfl, Below.refl _ _⟩) | (exfalso; omega)
  case neg =>
  have i1 : ¬ (k : Int) < (l6 : Int) := by omega
  obtain rfl : l6 = k := by omega
  clear hgk hlt hk
  obtain ⟨ob, hob, hmk⟩ := mk45 m (by have := HNM.out; omega)
  have H3 : Aside (∃ τ mb, BnS τ w.heap.size m n 0 mb w (w.alloc ob)) := ⟨_, _, BnS.start hob w⟩
  obtain ⟨MB, hMB⟩ : ∃ MB, MB = w.heap.size := ⟨_, rfl⟩
  have hmk' := hmk w
  rw [← hMB] at hmk'
  rw [show (∃ τ mb, BnS τ w.heap.size m n 0 mb w (w.alloc ob)) = (∃ τ mb, BnS τ MB m n 0 mb w (w.alloc ob)) by rw [hMB]] at H3
  obtain ⟨w3, hw3⟩ : ∃ w3, w3 = w.alloc ob := ⟨_, rfl⟩
  rw [← hw3] at H3 hmk'
  clear hmk hMB hw3 hob
  go_wp2_with fail
  clear hmk' i1
  go_loopg [20] m (fun gk s20 wx => ∃ k : Nat, s20 = .int .i64 (k : Int) ∧ k ≤ m ∧ gk = m - k ∧ Aside (∃ τ mb, BnS τ MB m n k mb w wx))
  case atStart => exact ⟨0, rfl, Nat.zero_le _, rfl, H3⟩
  case round =>
  clear H3
  obtain ⟨k, rfl, hk, hgk, HJ⟩ := hrel
  by_cases hlt : k < m
  case pos =>
    have i1 : (k : Int) < (m : Int) := by omega
    have mk := run_makeMap (P := Try.prog) 38 wr
    have HX : ∃ w4 MK, w4 = wr.alloc (.map #[] 0) ∧ MK = wr.heap.size ∧ w4.cell? ⟨MB, k, Option.none⟩ = some (.map Option.none) ∧ w4.frozen? ⟨MB, k, Option.none⟩ = false ∧ Aside (∃ τ mb, BnS τ MB m n (k + 1) mb w (w4.setCell ⟨MB, k, Option.none⟩ (.map (some MK)))) := by
      obtain ⟨τ, mb, hJ⟩ := HJ.out
      obtain ⟨τ', hS⟩ := hJ.step hlt
      have b := blk_new wr (.map #[] 0)
      have c := (hJ.r.below b).c k hlt
      rw [if_neg (by omega)] at c
      exact ⟨_, _, rfl, rfl, c, (hJ.r.below b).z k, ⟨τ', _, hS⟩⟩
    obtain ⟨w4, MK, e1, e2, c1, c2, HN⟩ := HX
    rw [← e1, ← e2] at mk
    clear e1 e2 HJ
    go_wp2_with fail
    go_roundg (m - (k + 1))
    case measure => omega
    case rel => exact ⟨k + 1, by have := HNM.out.2; go_num, by omega, rfl, HN⟩
  case neg =>
  have i1 : ¬ (k : Int) < (m : Int) := by omega
  obtain rfl : m = k := by omega
  clear hgk hlt hk
  obtain ⟨T, hT⟩ : ∃ T, T = m * n := ⟨_, rfl⟩
  have hT2 : T ≤ 1048576 := by rw [hT]; have := Nat.mul_le_mul HNM.out.2 HNM.out.1; omega
  have eT : IntKind.i64.wrap ((m : Int) * (n : Int)) = (T : Int) := by
    rw [show (m : Int) * (n : Int) = ((T : Nat) : Int) by rw [hT, Int.natCast_mul], IntKind.wrap_i64]; omega
  have HT : Hid (T = m * n ∧ T ≤ 1048576) := ⟨hT, hT2⟩
  have mkT := mk39 T (by omega)
  clear hT hT2
  obtain ⟨oi, hoi, hmk⟩ := mkT
  have HMK : Hid (MadeOf (.bool false) T oi ∧ ∀ w, (Instr.makeSlice 39 (.int .i64 T) (.int .i64 T)).run Try.prog w = .ok (.slice (some ⟨w.heap.size, 0, Option.none⟩) T T) (w.alloc oi)) := ⟨hoi, hmk⟩
  clear hmk hoi
  have HX : ∃ w4 IB, w4 = wr.alloc oi ∧ IB = wr.heap.size ∧ Aside (∃ τ mb bf, BnD τ MB IB m n 0 mb bf w w4) := by
    obtain ⟨τ, mb, hJ⟩ := HJ.out
    exact ⟨_, _, rfl, rfl, _, mb, _, hJ.made (by rw [← HT.out.1]; exact HMK.out.1)⟩
  obtain ⟨w4, IB, e1, e2, H4⟩ := HX
  have hmk := HMK.out.2 wr
  rw [← e1, ← e2] at hmk
  clear e1 e2 HJ
  go_wp2_with fail
  clear hmk i1
  go_loopg [22] l6 (fun gk s22 wx => ∃ k : Nat, s22 = .int .i64 (k : Int) ∧ k ≤ l6 ∧ gk = l6 - k ∧ Aside (∃ τ mb bf, BnD τ MB IB m n k mb bf w wx))
  case atStart => exact ⟨0, rfl, Nat.zero_le _, rfl, H4⟩
  case round =>
  clear H4
  obtain ⟨k, rfl, hk, hgk, HJ⟩ := hrel
  by_cases hlt : k < l6
  case pos =>
    have i1 : (k : Int) < (l6 : Int) := by omega
    have hO := HP.out k hlt
    obtain ⟨τ, mb, bf, hS0⟩ := HJ.out
    have hdr : Below wr.heap.size wr wr.drew := (Below.refl _ wr).drew
    have hS := hS0.below hdr
    obtain ⟨b4, o4, rfl, _, q4⟩ := R.out.2.1 (by omega)
    obtain ⟨b5, o5, rfl, _, q5⟩ := R.out.2.2 (by omega)
    have x4 := cell_below hS0.bl (q4 k hlt)
    have x5 := cell_below hS0.bl (q5 k hlt)
    obtain ⟨g1, g2, g3, g4⟩ := hO
    obtain ⟨u, hu⟩ := Int.eq_ofNat_of_zero_le g1
    obtain ⟨i, hi⟩ := Int.eq_ofNat_of_zero_le g3
    rw [hu] at x4 g2
    rw [hi] at x5 g4
    have hum : u < m := by omega
    have hin : i < n := by omega
    obtain ⟨v, hv⟩ : ∃ v, v = u * n + i := ⟨_, rfl⟩
    have hvT : v < T := by rw [hv, HT.out.1]; exact flat_lt hum hin
    obtain ⟨un, hun⟩ : ∃ un, un = u * n := ⟨_, rfl⟩
    have e1 : IntKind.i64.wrap ((u : Int) * (n : Int)) = (un : Int) := by
      rw [show (u : Int) * (n : Int) = ((un : Nat) : Int) by rw [hun, Int.natCast_mul], IntKind.wrap_i64]; have := HT.out.2; omega
    have e2 : IntKind.i64.wrap ((un : Int) + (i : Int)) = (v : Int) := by
      rw [IntKind.wrap_i64]; have := HT.out.2; omega
    have i2 : (u : Int) < (m : Int) := by omega
    have i4 : (v : Int) < (T : Int) := by omega
    have hev : v < m * n := by rw [← HT.out.1]; exact hvT
    obtain ⟨w5, hrun, hb5, ht5⟩ := (hS.b u hum).store HNM.out.1 (by omega) hin
    obtain ⟨t1, t2, t3, t4'⟩ := heapTurned ht5
    obtain ⟨v1, v2, v3, v4⟩ := hS.turn hum hin hb5 ht5
    have hput := hS.put hum hin v1 v2 v3 v4
    rw [← hv] at hput
    have cM := hS0.r.c u hum
    obtain ⟨M, hM⟩ : ∃ M, M = mb u := ⟨_, rfl⟩
    rw [← hM] at cM hrun
    have y4 : w5.cell? ⟨b4, o4 + k, Option.none⟩ = some (.int .i64 (u : Int)) := (t3 _).trans x4
    have y5 : w5.cell? ⟨b5, o5 + k, Option.none⟩ = some (.int .i64 (i : Int)) := (t3 _).trans x5
    have cI := v2.c v hev
    have zI := v2.z v
    obtain ⟨r, hr⟩ : ∃ r, r = bf v := ⟨_, rfl⟩
    rw [← hr] at cI
    have HN : Aside (∃ τ mb bf, BnD τ MB IB m n (k + 1) mb bf w ((w5.setCell ⟨IB, v, Option.none⟩ (.bool true)).drew)) := ⟨τ, mb, _, hput.below ((Below.refl _ _).drew)⟩
    clear hput v1 v2 v3 v4 t1 t2 t3 t4' hb5 ht5 hM hr hS hS0 hdr HJ hv hun hvT hev hum hin hu hi g1 g2 g3 g4 q4 q5 R
    go_wp2_with fail
    go_region
    clear hrun x4 x5 cM
    go_wp2_with fail
    go_region
    go_wp2_with fail
    go_roundg (l6 - (k + 1))
    case measure => omega
    case rel => exact ⟨k + 1, by go_num, by omega, rfl, HN⟩
  case neg =>
  have i1 : ¬ (k : Int) < (l6 : Int) := by omega
  obtain rfl : l6 = k := by omega
  clear hgk hlt hk
  obtain ⟨nb, hnb⟩ : ∃ nb, nb = (n + 7) / 8 := ⟨_, rfl⟩
  obtain ⟨nf, hnf⟩ : ∃ nf, nf = (nb + 63) / 64 := ⟨_, rfl⟩
  have HNB : Hid (nb = (n + 7) / 8 ∧ nf = (nb + 63) / 64) := ⟨hnb, hnf⟩
  clear hnb hnf
  have C19 : Hid (∀ w, Calls Try.prog 19 #[.int .i64 (n : Int), .int .u64 (s1 : Int), .int .u64 (s2 : Int)] w fun e w' => RetPicker w nb nf n e w') := fun w => newPicker_c n nb nf s1 s2 HS.out.1 HS.out.2 HNM.out.1 HNB.out.1 HNB.out.2 w
  go_wp2_with fail
  refine (C19.out _).mono ?_
  intro e w5 hr
  obtain ⟨op, hop, hmk⟩ := mk35 m (by have := HNM.out; omega)
  have HX : ∃ K w6 PS, e = .returned (.pointer (some ⟨K, 0, Option.none⟩)) ∧ w6 = w5.alloc op ∧ PS = w5.heap.size ∧ Aside (PeP MB IB K PS nb nf n m l6 0 w w6) := by
    obtain ⟨τ, mb, bf, hJ⟩ := HJ.out
    obtain ⟨K, he, hP⟩ := PeP.start hJ hr hop
    exact ⟨K, _, _, he, rfl, rfl, hP⟩
  obtain ⟨K, w6, PS, rfl, e1, e2, H5⟩ := HX
  have hmk' := hmk w5
  rw [← e1, ← e2] at hmk'
  clear e1 e2 HJ hr hmk hop C19 i1
  go_wp2_with fail
  clear hmk'
  go_loopg [25] m (fun gk s25 wx => ∃ k : Nat, s25 = .int .i64 (k : Int) ∧ k ≤ m ∧ gk = m - k ∧ Aside (PeP MB IB K PS nb nf n m l6 k w wx))
  case atStart => exact ⟨0, rfl, Nat.zero_le _, rfl, H5⟩
  case round =>
  clear H5
  obtain ⟨k, rfl, hk, hgk, HJ⟩ := hrel
  by_cases hlt : k < m
  case pos =>
    have i1 : (k : Int) < (m : Int) := by omega
    have HX : ∃ M, wr.cell? ⟨MB, k, Option.none⟩ = some (.map (some M)) ∧ Hid (Calls Try.prog 20 #[.int .i64 (n : Int), .map (some M)] wr fun e w' => ∃ B, e = .returned (.pointer (some ⟨B, 0, Option.none⟩)) ∧ w'.cell? ⟨PS, k, Option.none⟩ = some (.pointer Option.none) ∧ w'.frozen? ⟨PS, k, Option.none⟩ = false ∧ Aside (PeP MB IB K PS nb nf n m l6 (k + 1) w (w'.setCell ⟨PS, k, Option.none⟩ (.pointer (some ⟨B, 0, Option.none⟩))))) := by
      obtain ⟨τ, HB, HF, RB, Q, P, OB, PB, GB, SB, mb, pb, bb, fb, bf, order, pos, group, hJ⟩ := HJ.out
      refine ⟨mb k, hJ.b.r.c k hlt, ?_⟩
      refine (newPeer_c n (mb k) nb nf HNM.out.1 HNB.out.1 HNB.out.2 wr).mono ?_
      intro e w7 hr
      obtain ⟨τ', B, BB, FB, he, hP, hv⟩ := hJ.step hlt hr
      have c := hv.c k hlt
      rw [if_neg (by omega)] at c
      exact ⟨B, he, c, hv.z k, ⟨τ', HB, HF, RB, Q, P, OB, PB, GB, SB, mb, _, _, _, bf, order, pos, group, hP⟩⟩
    obtain ⟨M, cM, C20⟩ := HX
    clear HJ
    go_wp2_with fail
    refine C20.out.mono ?_
    rintro e w7 ⟨B, rfl, c1, c2, HN⟩
    clear C20 cM
    go_wp2_with fail
    go_roundg (m - (k + 1))
    case measure => omega
    case rel => exact ⟨k + 1, by have := HNM.out.2; go_num, by omega, rfl, HN⟩
  case neg =>
  have i1 : ¬ (k : Int) < (m : Int) := by omega
  obtain rfl : m = k := by omega
  clear hgk hlt hk
  obtain ⟨ow, how, hmw⟩ := mk23 m (by have := HNM.out; omega)
  obtain ⟨oc, hoc, hmc⟩ := mk23 n (by have := HNM.out; omega)
  have HX : ∃ w7 w8 w9 EB WB CB, w7 = wr.alloc oi ∧ w8 = w7.alloc ow ∧ w9 = w8.alloc oc ∧ EB = wr.heap.size ∧ WB = w7.heap.size ∧ CB = w8.heap.size ∧ Aside (MS IB K PS EB WB CB nb nf n m l6 0 w w9) := by
    refine ⟨_, _, _, wr.heap.size, wr.heap.size + 1, wr.heap.size + 2, rfl, rfl, rfl, rfl, by simp, by simp, ?_⟩
    exact HJ.out.made (by rw [← HT.out.1]; exact HMK.out.1) how hoc
  obtain ⟨w7, w8, w9, EB, WB, CB, e1, e2, e3, e4, e5, e6, H6⟩ := HX
  have m1 := HMK.out.2 wr
  have m2 := hmw w7
  have m3 := hmc w8
  rw [← e1, ← e4] at m1
  rw [← e2, ← e5] at m2
  rw [← e3, ← e6] at m3
  clear e1 e2 e3 e4 e5 e6 HJ hmw hmc how hoc HMK
  go_wp2_with fail
  clear m1 m2 m3 i1 eT
  go_loopg [29, 30, 31] l4 (fun gk s29 s30 s31 wx => ∃ k : Nat, s29 = .int .i64 (k : Int) ∧ k ≤ l4 ∧ gk = l4 - k ∧ Aside (MS IB K PS EB WB CB nb nf n m l6 k w wx))
  case atStart => exact ⟨0, rfl, Nat.zero_le _, rfl, H6⟩
  case round =>
  clear H6
  obtain ⟨k, rfl, hk, hgk, HJ⟩ := hrel
  by_cases hlt : k < l4
  case pos =>
    have i1 : (k : Int) < (l4 : Int) := by omega
    have hO := HO.out k hlt
    obtain ⟨τ, HB, HF, RB, Q, P, OB, PB, GB, SB, L, C, mb, pb, bb, fb, bf, sf, wt, cnt, order, pos, group, start, hS, hg, hL, hwt, hc⟩ := HJ.out
    obtain ⟨b4, o4, rfl, _, q4⟩ := R.out.1.1 (by omega)
    obtain ⟨b5, o5, rfl, _, q5⟩ := R.out.1.2 (by omega)
    have x4 := cell_below hS.bl (q4 k hlt)
    have x5 := cell_below hS.bl (q5 k hlt)
    obtain ⟨g1, g2, g3, g4⟩ := hO
    obtain ⟨u, hu⟩ := Int.eq_ofNat_of_zero_le g1
    obtain ⟨i, hi⟩ := Int.eq_ofNat_of_zero_le g3
    rw [hu] at x4 g2
    rw [hi] at x5 g4
    have hum : u < m := by omega
    have hin : i < n := by omega
    obtain ⟨v, hv⟩ : ∃ v, v = u * n + i := ⟨_, rfl⟩
    have hvT : v < T := by rw [hv, HT.out.1]; exact flat_lt hum hin
    obtain ⟨un, hun⟩ : ∃ un, un = u * n := ⟨_, rfl⟩
    have e1 : IntKind.i64.wrap ((u : Int) * (n : Int)) = (un : Int) := by
      rw [show (u : Int) * (n : Int) = ((un : Nat) : Int) by rw [hun, Int.natCast_mul], IntKind.wrap_i64]; have := HT.out.2; omega
    have e2 : IntKind.i64.wrap ((un : Int) + (i : Int)) = (v : Int) := by
      rw [IntKind.wrap_i64]; have := HT.out.2; omega
    have i2 : (u : Int) < (m : Int) := by omega
    have i3 : (i : Int) < (n : Int) := by omega
    have i4 : (v : Int) < (T : Int) := by omega
    have ce := hS.e.c v (by rw [← HT.out.1]; exact hvT)
    have ze := hS.e.z v
    have ci := hS.f.i.c v (by rw [← HT.out.1]; exact hvT)
    have cc := hS.c.c i hin
    have zc := hS.c.z i
    have cw := hS.wr.c u hum
    have zw := hS.wr.z u
    have cp := hS.f.p.c u hum
    have hcl : cnt i ≤ 32768 := by have := hc i hin; omega
    have hwl : wt u ≤ 32768 := by have := hwt u hum; omega
    obtain ⟨t, ht⟩ : ∃ t, t = sf v := ⟨_, rfl⟩
    obtain ⟨r, hr⟩ : ∃ r, r = bf v := ⟨_, rfl⟩
    obtain ⟨c, hcc⟩ : ∃ c, c = cnt i := ⟨_, rfl⟩
    obtain ⟨x, hxx⟩ : ∃ x, x = wt u := ⟨_, rfl⟩
    obtain ⟨B, hB⟩ : ∃ B, B = pb u := ⟨_, rfl⟩
    rw [← ht] at ce
    rw [← hr] at ci
    rw [← hcc] at cc
    rw [← hxx] at cw
    rw [← hB] at cp
    obtain ⟨c', hc'⟩ : ∃ c' : Nat, IntKind.i64.wrap ((c : Int) + 1) = (c' : Int) := ⟨c + 1, by rw [IntKind.wrap_i64]; omega⟩
    obtain ⟨x', hx'⟩ : ∃ x' : Nat, IntKind.i64.wrap ((x : Int) + 1) = (x' : Int) := ⟨x + 1, by rw [IntKind.wrap_i64]; omega⟩
    have hc2 : c' = cnt i + 1 := by rw [IntKind.wrap_i64] at hc'; omega
    have hx2 : x' = wt u + 1 := by rw [IntKind.wrap_i64] at hx'; omega
    have tE := hS.t.e; have tC := hS.t.c; have tW := hS.t.w; have tI := hS.t.i; have tP := hS.t.p
    have n1 : EB ≠ CB := ne_tag (τ := τ) (by omega)
    have n2 : EB ≠ IB := ne_tag (τ := τ) (by omega)
    have n3 : EB ≠ WB := ne_tag (τ := τ) (by omega)
    have n4 : EB ≠ PS := ne_tag (τ := τ) (by omega)
    have n5 : CB ≠ IB := ne_tag (τ := τ) (by omega)
    have n6 : CB ≠ WB := ne_tag (τ := τ) (by omega)
    have n7 : CB ≠ PS := ne_tag (τ := τ) (by omega)
    have n8 : WB ≠ PS := ne_tag (τ := τ) (by omega)
    have hev : v < m * n := by rw [← HT.out.1]; exact hvT
    have KT : Hid (r = true → Calls Try.prog 27 #[.pointer (some ⟨B, 0, Option.none⟩), .int .i64 (i : Int)] ((wr.setCell ⟨EB, v, Option.none⟩ (.bool true)).setCell ⟨CB, i, Option.none⟩ (.int .i64 (c' : Int))) fun e w' => e = .returned (.tuple #[]) ∧ w'.cell? ⟨PS, u, Option.none⟩ = some (.pointer (some ⟨B, 0, Option.none⟩)) ∧
        Hid (Calls Try.prog 28 #[.pointer (some ⟨K, 0, Option.none⟩), .pointer (some ⟨B, 0, Option.none⟩), .int .i64 (i : Int)] w' fun e' w'' => e' = .returned (.tuple #[]) ∧ Aside (MS IB K PS EB WB CB nb nf n m l6 (k + 1) w w''))) := by
      intro hr1
      have S1 := (hS.setE HNM.out.2 hev).setC HNM.out.2 hin c'
      rw [hB]
      rw [show (StD τ IB K HB HF PS EB WB CB RB Q P OB PB GB SB nb nf n m l6 L C mb pb bb fb bf (upd sf v true) wt wt (upd cnt i c') order pos group start w ((wr.setCell ⟨EB, v, Option.none⟩ (.bool true)).setCell ⟨CB, i, Option.none⟩ (.int .i64 (c' : Int)))) = (StD τ IB K HB HF PS EB WB CB RB Q P OB PB GB SB nb nf n m l6 L C mb pb bb fb bf (upd sf v true) (upd wt u (if bf (u * n + i) then wt u else wt u + 1)) wt (upd cnt i (cnt i + 1)) order pos group start w ((wr.setCell ⟨EB, v, Option.none⟩ (.bool true)).setCell ⟨CB, i, Option.none⟩ (.int .i64 (c' : Int)))) by rw [← hv, ← hr, if_pos hr1, upd_id, ← hc2]] at S1
      exact S1.both HNM.out.2 HNM.out.1 HNB.out.1 HNB.out.2 hum hin hg hL hwt hc (by omega)
    have KF : Hid (r = false → Calls Try.prog 27 #[.pointer (some ⟨B, 0, Option.none⟩), .int .i64 (i : Int)] (((wr.setCell ⟨EB, v, Option.none⟩ (.bool true)).setCell ⟨CB, i, Option.none⟩ (.int .i64 (c' : Int))).setCell ⟨WB, u, Option.none⟩ (.int .i64 (x' : Int))) fun e w' => e = .returned (.tuple #[]) ∧ w'.cell? ⟨PS, u, Option.none⟩ = some (.pointer (some ⟨B, 0, Option.none⟩)) ∧
        Hid (Calls Try.prog 28 #[.pointer (some ⟨K, 0, Option.none⟩), .pointer (some ⟨B, 0, Option.none⟩), .int .i64 (i : Int)] w' fun e' w'' => e' = .returned (.tuple #[]) ∧ Aside (MS IB K PS EB WB CB nb nf n m l6 (k + 1) w w''))) := by
      intro hr1
      have S1 := ((hS.setE HNM.out.2 hev).setC HNM.out.2 hin c').setWt HNM.out.2 hum x'
      rw [hB]
      rw [show (StD τ IB K HB HF PS EB WB CB RB Q P OB PB GB SB nb nf n m l6 L C mb pb bb fb bf (upd sf v true) (upd wt u x') wt (upd cnt i c') order pos group start w (((wr.setCell ⟨EB, v, Option.none⟩ (.bool true)).setCell ⟨CB, i, Option.none⟩ (.int .i64 (c' : Int))).setCell ⟨WB, u, Option.none⟩ (.int .i64 (x' : Int)))) = (StD τ IB K HB HF PS EB WB CB RB Q P OB PB GB SB nb nf n m l6 L C mb pb bb fb bf (upd sf v true) (upd wt u (if bf (u * n + i) then wt u else wt u + 1)) wt (upd cnt i (cnt i + 1)) order pos group start w (((wr.setCell ⟨EB, v, Option.none⟩ (.bool true)).setCell ⟨CB, i, Option.none⟩ (.int .i64 (c' : Int))).setCell ⟨WB, u, Option.none⟩ (.int .i64 (x' : Int)))) by rw [← hv, ← hr, hr1, ← hx2, ← hc2]; rfl] at S1
      exact S1.both HNM.out.2 HNM.out.1 HNB.out.1 HNB.out.2 hum hin hg hL hwt hc (by omega)
    have HUM : Hid (u < m) := hum
    clear tE tC tW tI tP hS hg hL hwt hc hcl hwl ht hr hcc hxx hB hc2 hx2 hev hv hun hvT hum hin hu hi g1 g2 g3 g4 q4 q5 R
    go_upto_if 249 with fail
    go_cut [] (fun wx => Aside (MS IB K PS EB WB CB nb nf n m l6 (k + 1) w wx))
    case first =>
      cases t
      case true =>
        go_wp2_with fail
        go_meet
        case rel => exact HJ.out.succ
      case false =>
        clear HJ
        cases r
        case true =>
          have C27 := KT.out rfl
          have HC27 : Hid (Calls Try.prog 27 #[.pointer (some ⟨B, 0, Option.none⟩), .int .i64 (i : Int)] ((wr.setCell ⟨EB, v, Option.none⟩ (.bool true)).setCell ⟨CB, i, Option.none⟩ (.int .i64 (c' : Int))) fun e w' => e = .returned (.tuple #[]) ∧ w'.cell? ⟨PS, u, Option.none⟩ = some (.pointer (some ⟨B, 0, Option.none⟩)) ∧
            Hid (Calls Try.prog 28 #[.pointer (some ⟨K, 0, Option.none⟩), .pointer (some ⟨B, 0, Option.none⟩), .int .i64 (i : Int)] w' fun e' w'' => e' = .returned (.tuple #[]) ∧ Aside (MS IB K PS EB WB CB nb nf n m l6 (k + 1) w w''))) := C27
          clear C27 KT KF
          go_wp2_with fail
          refine HC27.out.mono ?_
          rintro e w8 ⟨rfl, d1, C28⟩
          clear HC27 ce ze ci cc zc cw zw cp
          go_wp2_with fail
          refine C28.out.mono ?_
          rintro e w9 ⟨rfl, HN⟩
          clear C28 d1
          go_wp2_with fail
          go_meet
          case rel => exact HN
        case false =>
          have C27 := KF.out rfl
          have HC27 : Hid (Calls Try.prog 27 #[.pointer (some ⟨B, 0, Option.none⟩), .int .i64 (i : Int)] (((wr.setCell ⟨EB, v, Option.none⟩ (.bool true)).setCell ⟨CB, i, Option.none⟩ (.int .i64 (c' : Int))).setCell ⟨WB, u, Option.none⟩ (.int .i64 (x' : Int))) fun e w' => e = .returned (.tuple #[]) ∧ w'.cell? ⟨PS, u, Option.none⟩ = some (.pointer (some ⟨B, 0, Option.none⟩)) ∧
            Hid (Calls Try.prog 28 #[.pointer (some ⟨K, 0, Option.none⟩), .pointer (some ⟨B, 0, Option.none⟩), .int .i64 (i : Int)] w' fun e' w'' => e' = .returned (.tuple #[]) ∧ Aside (MS IB K PS EB WB CB nb nf n m l6 (k + 1) w w''))) := C27
          clear C27 KT KF
          go_wp2_with fail
          refine HC27.out.mono ?_
          rintro e w8 ⟨rfl, d1, C28⟩
          clear HC27 ce ze ci cc zc cw zw cp
          go_wp2_with fail
          refine C28.out.mono ?_
          rintro e w9 ⟨rfl, HN⟩
          clear C28 d1
          go_wp2_with fail
          go_meet
          case rel => exact HN
    case rest =>
      clear ce ze ci cc zc cw zw cp KT KF HJ x4 x5
      obtain ⟨B, x, y1, y2, C22, C23⟩ := hcut.out.view HUM.out
      go_wp2_with fail
      go_quiet ((go_at_call 22; exact Calls.quiet_of_same (C22.out _)))
      go_wp2_with fail
      obtain ⟨w6, hw6⟩ : ∃ w6, w6 = wc.drewN nq := ⟨_, rfl⟩
      rw [← hw6]
      have HM : Aside (MS IB K PS EB WB CB nb nf n m l6 (k + 1) w w6) := by rw [hw6]; exact hcut.out.below (below_drewN (Below.refl _ _) _)
      clear hw6 hcut y1 y2 C22 C23
      obtain ⟨B2, x2, y1, y2, _, C23⟩ := HM.out.view HUM.out
      go_quiet ((go_at_call 23; exact Calls.quiet_of_same (C23.out _ _)))
      go_wp2_with fail
      go_roundg (l4 - (k + 1))
      case measure => omega
      case rel => exact ⟨k + 1, by go_num, by omega, rfl, HM.out.below (below_drewN (Below.refl _ _) _)⟩
  case neg =>
  have i1 : ¬ (k : Int) < (l4 : Int) := by omega
  obtain rfl : l4 = k := by omega
  clear hgk hlt hk
  go_wp2_with fail
  clear i1
  go_loopg [32] m (fun gk s32 wx => ∃ k : Nat, s32 = .int .i64 (k : Int) ∧ k ≤ m ∧ gk = m - k ∧ Aside (MS IB K PS EB WB CB nb nf n m l6 l4 w wx))
  case atStart => exact ⟨0, rfl, Nat.zero_le _, rfl, HJ⟩
  case round =>
  clear HJ
  obtain ⟨k, rfl, hk, hgk, HJ⟩ := hrel
  by_cases hlt : k < m
  case pos =>
    have i1 : (k : Int) < (m : Int) := by omega
    obtain ⟨B, x, y1, y2, C22, _⟩ := HJ.out.view hlt
    go_wp2_with fail
    go_quiet ((go_at_call 22; exact Calls.quiet_of_same (C22.out _)))
    go_wp2_with fail
    go_roundg (m - (k + 1))
    case measure => omega
    case rel => exact ⟨k + 1, by have := HNM.out.2; go_num, by omega, rfl, HJ.out.below (below_drewN (Below.refl _ _) _)⟩
  case neg =>
  have i1 : ¬ (k : Int) < (m : Int) := by omega
  clear hgk hlt hk
  obtain ⟨RB, OB, PB, GB, SB, L, C, k19, ⟨y1, y2, y3, y4⟩, C12⟩ := HJ.out.tail t4 HNM.out.1
  have C25 : Hid (Calls Try.prog 25 #[.pointer (some ⟨K, 0, Option.none⟩)] wr fun e w' => e = .returned (.pointer (some ⟨RB, 0, Option.none⟩)) ∧ w' = wr) := rarityOf_c K RB wr k19
  have C13 : Hid (Calls Try.prog 13 #[.pointer (some ⟨RB, 0, Option.none⟩)] wr fun e w' => e = .returned (.slice (some ⟨OB, 0, Option.none⟩) n n) ∧ w' = wr) := orderOf_c RB _ _ _ wr y1
  have C14 : Hid (Calls Try.prog 14 #[.pointer (some ⟨RB, 0, Option.none⟩)] wr fun e w' => e = .returned (.slice (some ⟨PB, 0, Option.none⟩) n n) ∧ w' = wr) := posOf_c RB _ _ _ wr y2
  have C11 : Hid (Calls Try.prog 11 #[.pointer (some ⟨RB, 0, Option.none⟩)] wr fun e w' => e = .returned (.slice (some ⟨GB, 0, Option.none⟩) n n) ∧ w' = wr) := groupOf_c RB _ _ _ wr y3
  have C15 : Hid (Calls Try.prog 15 #[.pointer (some ⟨RB, 0, Option.none⟩)] wr fun e w' => e = .returned (.slice (some ⟨SB, 0, Option.none⟩) L C) ∧ w' = wr) := startOf_c RB _ _ _ wr y4
  clear HJ k19 y1 y2 y3 y4
  go_wp2_with fail
  refine C25.out.mono ?_
  rintro e wx ⟨rfl, hx⟩
  subst hx
  go_wp2_with fail
  refine C13.out.mono ?_
  rintro e wx ⟨rfl, hx⟩
  subst hx
  go_wp2_with fail
  refine C14.out.mono ?_
  rintro e wx ⟨rfl, hx⟩
  subst hx
  go_wp2_with fail
  refine C11.out.mono ?_
  rintro e wx ⟨rfl, hx⟩
  subst hx
  go_wp2_with fail
  refine C15.out.mono ?_
  rintro e wx ⟨rfl, hx⟩
  subst hx
  go_wp2_with fail
  refine C12.out.mono ?_
  rintro e wx ⟨rfl, hb⟩
  have HB : Hid (Below w.heap.size w wx) := hb
  clear hb C12
  go_wp2_with fail
  go_ret
  exact ⟨rfl, HB.out⟩

end Go.Proofs.Qxb6616210a
