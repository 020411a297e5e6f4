import Derived.Test.Qxb6616096aDoorShardP
import Derived.Test.Qxb6616096aDoorKeyTab
namespace Go.Proofs.Qxb6616096aDoor
open Go.RowKit
set_option linter.unusedVariables false
set_option linter.unusedSimpArgs false
set_option maxRecDepth 100000

theorem zeros_get (z : Array Value) (n k : Nat) (hk : k < n) : (zeros z n)[k]? = some (z[k % z.size]!) := by simp [zeros, madeCells, hk]

/-- A made row of n elements of z. -/
def MadeRow (z : Array Value) (n : Nat) (ob : Obj) : Prop := ∃ t, ob = .cells (zeros z n) t

theorem MadeRow.cell {z : Array Value} {n : Nat} {ob : Obj} (h : MadeRow z n ob) (w : World) (k : Nat) (hk : k < n) : (w.alloc ob).cell? ⟨w.heap.size, k, Option.none⟩ = some (z[k % z.size]!) := by
  obtain ⟨t, rfl⟩ := h
  simp [go_sem, zeros_get z n k hk]
theorem MadeRow.froz {z : Array Value} {n : Nat} {ob : Obj} (h : MadeRow z n ob) (w : World) (k : Nat) : (w.alloc ob).frozen? ⟨w.heap.size, k, Option.none⟩ = false := by
  obtain ⟨t, rfl⟩ := h
  simp [go_sem]

/-- The shard as the loop meets it. -/
theorem shs_new {w w1 : World} (hb : Below w.heap.size w w1) (n : Nat) (own : Nat → Nat) (OK : Int → Int → Int → Int → Int → Prop) {ob ob' : Obj} (cs : Array Value) (tS : TypeId) (h1 : MadeRow #[.int .i64 0, .int .u64 0, .int .i64 0] (n * 3) ob) (h2 : MadeRow #[.pointer Option.none] (n * 1) ob')
    (hc4 : cs[4]? = some (.slice (some ⟨w1.heap.size + 1, 0, Option.none⟩) n n)) (hc5 : cs[5]? = some (.slice (some ⟨w1.heap.size + 1 + 1, 0, Option.none⟩) n n)) (hc6 : cs[6]? = some (.bool true)) :
    ShS w w1.heap.size (w1.heap.size + 1) (w1.heap.size + 1 + 1) n (fun _ => 0) (fun _ => 0) (fun _ => 0) (fun _ => Option.none) own OK
      (((w1.alloc (.cells cs tS)).alloc ob).alloc ob') := by
  have ba : ∀ (X : World) (o : Obj), Below X.heap.size X (X.alloc o) := fun X o => (Below.refl _ _).alloc (Nat.le_refl _) _
  have e1 : (w1.alloc (.cells cs tS)).heap.size = w1.heap.size + 1 := by simp
  have e2 : ((w1.alloc (.cells cs tS)).alloc ob).heap.size = w1.heap.size + 1 + 1 := by simp
  have k2 : ∀ k, k < n * 3 → (((w1.alloc (.cells cs tS)).alloc ob).alloc ob').cell? ⟨w1.heap.size + 1, k, Option.none⟩ = some (#[Value.int .i64 0, .int .u64 0, .int .i64 0][k % 3]!) := fun k hk => by
    have := h1.cell (w1.alloc (.cells cs tS)) k hk
    rw [e1] at this
    exact cell_below (ba _ _) this
  have k3 : ∀ k, k < n * 1 → (((w1.alloc (.cells cs tS)).alloc ob).alloc ob').cell? ⟨w1.heap.size + 1 + 1, k, Option.none⟩ = some (#[Value.pointer Option.none][k % 1]!) := fun k hk => by
    have := h2.cell ((w1.alloc (.cells cs tS)).alloc ob) k hk
    rw [e2] at this; exact this
  have c0 : ∀ q v, cs[q]? = some v → (((w1.alloc (.cells cs tS)).alloc ob).alloc ob').cell? ⟨w1.heap.size, q, Option.none⟩ = some v := fun q v hq => by
    apply cell_below (ba _ _)
    apply cell_below (ba _ _)
    simp [go_sem, hq]
  have hs := hb.size
  refine ⟨c0 4 _ hc4, c0 5 _ hc5, c0 6 _ hc6, ?_, ?_, ?_, ?_, ?_, ?_, ?_, ⟨hs, by omega, by omega, by omega, by omega, by omega, by simp, by simp⟩, ?_⟩
  · intro j hj
    rw [k2 _ (by omega), show j * 3 % 3 = 0 from by omega]; rfl
  · intro j hj
    rw [k2 _ (by omega), show (j * 3 + 1) % 3 = 1 from by omega]; rfl
  · intro j hj
    rw [k2 _ (by omega), show (j * 3 + 2) % 3 = 2 from by omega]; rfl
  · intro j
    rw [(ba _ _).frozen (by simp)]
    have := h1.froz (w1.alloc (.cells cs tS)) j
    rw [e1] at this; exact this
  · intro j hj
    rw [k3 _ (by omega), show j % 1 = 0 from by omega]; rfl
  · intro j
    have := h2.froz ((w1.alloc (.cells cs tS)).alloc ob) j
    rw [e2] at this; exact this
  · intro j hj B hB; cases hB
  · exact ((hb.alloc hs _).alloc (by simp; omega) _).alloc (by simp; omega) _

theorem shs_alloc {w0 : World} {S BB RB n : Nat} {bt bp bl : Nat → Int} {P : Nat → Option Nat} {own : Nat → Nat} {OK : Int → Int → Int → Int → Int → Prop} {w6 : World} (h : ShS w0 S BB RB n bt bp bl P own OK w6) (k : Nat) (hk : k < n) :
    (∀ o, (w6.alloc o).cell? ⟨S, 5, Option.none⟩ = some (.slice (some ⟨RB, 0, Option.none⟩) n n)) ∧ (∀ o, (w6.alloc o).cell? ⟨RB, k, Option.none⟩ = some (ptr? (P k))) ∧ (∀ o, (w6.alloc o).frozen? ⟨RB, k, Option.none⟩ = false) :=
  have g := fun o => h.below ((Below.refl w6.heap.size w6).alloc (Nat.le_refl _) o)
  ⟨fun o => (g o).s5, fun o => (g o).rc k hk, fun o => (g o).rf k⟩

theorem shs_own {w0 : World} {S BB RB n : Nat} {bt bp bl : Nat → Int} {P : Nat → Option Nat} {own : Nat → Nat} {OK : Int → Int → Int → Int → Int → Prop} {w6 : World} (h : ShS w0 S BB RB n bt bp bl P own OK w6) (k : Nat) (hk : k < n) {m o e d f : Int} (hok : OK m o e d f) {t : Nat} (ht : own k = t) :
    ShS w0 S BB RB n bt bp bl (upd P k (some w6.heap.size)) own OK ((w6.alloc (.cells #[.float .f64 t, .int .u64 m, .int .u64 o, .int .i64 e, .int .u64 d, .int .u64 f] 101)).setCell ⟨RB, k, Option.none⟩ (.pointer (some ⟨w6.heap.size, 0, Option.none⟩))) := by
  obtain ⟨n1, n2, n3, n4, n5, n6, n7, n8⟩ := h.ne
  refine (h.below ((Below.refl w6.heap.size w6).alloc (Nat.le_refl _) _)).setR k hk w6.heap.size ?_ ⟨by simp [go_sem], by simp [go_sem], by simp [go_sem], by simp [go_sem], by simp [go_sem]⟩ hok (by omega) (by omega) h.low.size
  rw [ht]; simp [go_sem]

set_option maxHeartbeats 40000000 in
theorem shard_w (A LB KB Bt Bp Bl Bo Bh n : Nat) (burst : Int) (mn mx it ic dc : Nat) (per m o e d f : Int) (tok pha las : Nat → Int) (own : Nat → Nat) (has : Nat → Bool) (OK : Int → Int → Int → Int → Int → Prop) (w : World) (hn : n ≤ 65536)
    (hA : Adap A LB KB burst mn mx it ic dc per m o e d f w) (hF : Five Bt Bp Bl Bo Bh n tok pha las own has w)
    (C22 : Hid (∀ w', Calls Tryd.prog 22 #[.bool true] w' fun e w'' => (∃ X : Nat, e = .returned (.agg #[.slice (some ⟨X, 0, Option.none⟩) 8 8, .slice Option.none 0 0, .slice Option.none 0 0, .slice Option.none 0 0, .bool true, .int .i64 0, .int .i64 (-9223372036854775808)])) ∧ Below w'.heap.size w' w''))
    (C21 : Hid (∀ t w', Calls Tryd.prog 21 #[.agg #[.int .i64 burst, .float .f64 mn, .float .f64 mx, .float .f64 it, .float .f64 ic, .float .f64 dc, .int .i64 per], .float .f64 t] w' fun e' w'' => e' = .returned (.agg #[.int .i64 burst, .float .f64 t, .int .i64 per]) ∧ Below w'.heap.size w' w''))
    (C23 : Hid (∀ j, j < n → has j = true → ∃ m' o' e' d' f', OK m' o' e' d' f' ∧ ∀ w', Below w.heap.size w w' → Calls Tryd.prog 23 #[.agg #[.int .i64 burst, .float .f64 (own j), .int .i64 per]] w' fun e'' w'' => e'' = .returned (.agg #[.int .u64 m', .int .u64 o', .int .i64 e', .int .u64 d', .int .u64 f']) ∧ Below w'.heap.size w' w'')) :
    Calls Tryd.prog 10 #[.pointer (some ⟨A, 0, Option.none⟩), .slice (some ⟨Bt, 0, Option.none⟩) n n, .slice (some ⟨Bp, 0, Option.none⟩) n n, .slice (some ⟨Bl, 0, Option.none⟩) n n, .slice (some ⟨Bo, 0, Option.none⟩) n n, .slice (some ⟨Bh, 0, Option.none⟩) n n] w fun e' w' => RetShard w n tok pha las own has OK e' w' := by
  have hmk0 := fun w => run_mk 88 97 (.agg #[.int .i64 0, .int .u64 0, .int .i64 0]) 3 24 Tryd.underlying88 (by kernel_rfl) n (by decide) (by omega) w
  obtain ⟨ob, HOB, hmk⟩ : ∃ ob : Obj, Hid (MadeRow #[.int .i64 0, .int .u64 0, .int .i64 0] (n * 3) ob) ∧ ∀ w, (Instr.makeSlice 88 (.int .i64 n) (.int .i64 n)).run Tryd.prog w = .ok (.slice (some ⟨w.heap.size, 0, Option.none⟩) n n) (w.alloc ob) := ⟨_, ⟨97, rfl⟩, hmk0⟩
  have hmk0' := fun w => run_mk 89 98 (.pointer Option.none) 1 8 Tryd.underlying89 (by kernel_rfl) n (by decide) (by omega) w
  obtain ⟨ob', HOB', hmk'⟩ : ∃ ob : Obj, Hid (MadeRow #[.pointer Option.none] (n * 1) ob) ∧ ∀ w, (Instr.makeSlice 89 (.int .i64 n) (.int .i64 n)).run Tryd.prog w = .ok (.slice (some ⟨w.heap.size, 0, Option.none⟩) n n) (w.alloc ob) := ⟨_, ⟨98, rfl⟩, hmk0'⟩
  clear hmk0 hmk0'
  have HA : Hid (Adap A LB KB burst mn mx it ic dc per m o e d f w) := hA
  have HF : Hid (Five Bt Bp Bl Bo Bh n tok pha las own has w) := hF
  clear hA hF
  go_enter Tryd.func10, Tryd.ntmps10
  go_wp2_with fail
  refine (C22.out _).mono ?_
  rintro e w1 ⟨⟨X, rfl⟩, hb⟩
  have HB1 : Hid (Below w.heap.size w w1) := hb
  clear hb
  go_wp2_with fail
  have H0 : Aside (ShS w w1.heap.size (w1.heap.size + 1) (w1.heap.size + 1 + 1) n (pre tok 0) (pre pha 0) (pre las 0) (fun _ => Option.none) own OK (((w1.alloc (.cells #[Value.int .i32 0, .int .u32 0, .slice (some ⟨X, 0, Option.none⟩) 8 8, .slice Option.none 0 0, .slice (some ⟨w1.heap.size + 1, 0, Option.none⟩) n n, .slice (some ⟨w1.heap.size + 1 + 1, 0, Option.none⟩) n n, .bool true, .int .i64 0, .int .i64 (-9223372036854775808)] 95)).alloc ob).alloc ob') ∧ Owns has n 0 (fun _ => Option.none)) :=
    ⟨shs_new HB1.out n own OK #[Value.int .i32 0, .int .u32 0, .slice (some ⟨X, 0, Option.none⟩) 8 8, .slice Option.none 0 0, .slice (some ⟨w1.heap.size + 1, 0, Option.none⟩) n n, .slice (some ⟨w1.heap.size + 1 + 1, 0, Option.none⟩) n n, .bool true, .int .i64 0, .int .i64 (-9223372036854775808)] 95 HOB.out HOB'.out rfl rfl rfl, Owns.none has n⟩
  obtain ⟨S, hS⟩ : ∃ S, S = w1.heap.size := ⟨_, rfl⟩
  rw [← hS] at H0 ⊢
  obtain ⟨BB, RB, H0⟩ : ∃ BB RB, Aside (ShS w S BB RB n (pre tok 0) (pre pha 0) (pre las 0) (fun _ => Option.none) own OK (((w1.alloc (.cells #[Value.int .i32 0, .int .u32 0, .slice (some ⟨X, 0, Option.none⟩) 8 8, .slice Option.none 0 0, .slice (some ⟨S + 1, 0, Option.none⟩) n n, .slice (some ⟨S + 1 + 1, 0, Option.none⟩) n n, .bool true, .int .i64 0, .int .i64 (-9223372036854775808)] 95)).alloc ob).alloc ob') ∧ Owns has n 0 (fun _ => Option.none)) := ⟨_, _, H0⟩
  go_loopg [14, 34] n (fun gk s14 s34 wx => ∃ (k : Nat) (P : Nat → Option Nat), s34 = .int .i64 k ∧ k ≤ n ∧ gk = n - k ∧ Aside (ShS w S BB RB n (pre tok k) (pre pha k) (pre las k) P own OK wx ∧ Owns has n k P))
  case atStart => exact ⟨0, _, rfl, Nat.zero_le _, rfl, H0⟩
  case round =>
    obtain ⟨k, P, rfl, hk, hgk, HT⟩ := hrel
    clear H0 hmk hmk' HOB HOB' HB1 C22 hS
    by_cases hlt : k < n
    · have s4 := HT.out.1.s4
      have hF := HF.out.below HT.out.1.low
      have ct := hF.t k hlt; have cp := hF.p k hlt; have cl := hF.l k hlt; have ch := hF.h k hlt
      have b0 := HT.out.1.b0 k hlt; have b1 := HT.out.1.b1 k hlt; have b2 := HT.out.1.b2 k hlt
      have g0 := HT.out.1.g0 (k * 3); have g1 := HT.out.1.g0 (k * 3 + 1); have g2 := HT.out.1.g0 (k * 3 + 2)
      have i1 : (k : Int) < (n : Int) := by omega
      clear hF
      go_upto_region 7 with fail
      go_cut [14] (fun s14 wx => s14 = .int .i64 k ∧ Aside (ShS w S BB RB n (pre tok (k + 1)) (pre pha (k + 1)) (pre las (k + 1)) P own OK wx))
      case first =>
        go_region
        all_goals go_wp2_with fail
        all_goals go_meet
        case rel =>
          have h1 := (HT.out.1.setB k hlt (tok k) (pha k) (las k)).drew
          rw [pre_next, pre_next, pre_next] at h1
          exact ⟨rfl, h1⟩
      case rest =>
        obtain ⟨rfl, HB⟩ := hcut
        clear s4 ct cp cl ch b0 b1 b2 g0 g1 g2
        have hF := HF.out.below HB.out.low
        have ch := hF.h k hlt
        have HO : Hid (Owns has n k P) := HT.out.2
        clear HT
        cases hh : has k with
        | false =>
          rw [hh] at ch
          clear hF
          go_wp2_with fail
          go_roundg (n - (k + 1))
          case measure => omega
          case rel => exact ⟨k + 1, P, by go_num, by omega, rfl, HB.out, HO.out.no hh⟩
        | true =>
          rw [hh] at ch
          obtain ⟨m', o', e', d', f', hok, C23'⟩ := C23.out k hlt hh
          obtain ⟨t, ht⟩ : ∃ t, own k = t := ⟨_, rfl⟩
          rw [ht] at C23'
          have co := hF.o k hlt
          rw [ht] at co
          have hA := HA.out.below HB.out.low
          have a1 := hA.a1; have a2 := hA.a2; have a3 := hA.a3; have a4 := hA.a4; have a5 := hA.a5; have a6 := hA.a6; have a7 := hA.a7
          have s5 := HB.out.s5
          have HBd : ShS w S BB RB n (pre tok (k + 1)) (pre pha (k + 1)) (pre las (k + 1)) P own OK wc.drew := HB.out.drew
          have K21 : Hid (∀ w', ShS w S BB RB n (pre tok (k + 1)) (pre pha (k + 1)) (pre las (k + 1)) P own OK w' → Calls Tryd.prog 21 #[.agg #[.int .i64 burst, .float .f64 mn, .float .f64 mx, .float .f64 it, .float .f64 ic, .float .f64 dc, .int .i64 per], .float .f64 t] w' fun e' w'' => e' = .returned (.agg #[.int .i64 burst, .float .f64 t, .int .i64 per]) ∧ ShS w S BB RB n (pre tok (k + 1)) (pre pha (k + 1)) (pre las (k + 1)) P own OK w'') :=
            fun w' hw => (C21.out t w').mono fun e' w'' ⟨h1, h2⟩ => ⟨h1, hw.below h2⟩
          have K23 : Hid (∀ w', ShS w S BB RB n (pre tok (k + 1)) (pre pha (k + 1)) (pre las (k + 1)) P own OK w' → Calls Tryd.prog 23 #[.agg #[.int .i64 burst, .float .f64 t, .int .i64 per]] w' fun e'' w'' => e'' = .returned (.agg #[.int .u64 m', .int .u64 o', .int .i64 e', .int .u64 d', .int .u64 f']) ∧ ShS w S BB RB n (pre tok (k + 1)) (pre pha (k + 1)) (pre las (k + 1)) P own OK w'') :=
            fun w' hw => (C23' w' hw.low).mono fun e' w'' ⟨h1, h2⟩ => ⟨h1, hw.below h2⟩
          have HK : Hid (OK m' o' e' d' f') := hok
          have HT' : Hid (own k = t) := ht
          clear C23' hok ht hF hA C21 C23
          go_wp2_with fail
          go_region_with (first | (go_at_call 21; refine (K21.out _ (by assumption)).mono ?_; rintro e w5 ⟨rfl, hS5⟩; have x0 := hS5.s5; have x1 := HT'.out ▸ (HF.out.below hS5.low).o k hlt) | (go_at_call 23; refine (K23.out _ (by assumption)).mono ?_; rintro e w6 ⟨rfl, hS6⟩; have y0 := hS6.s5; have y1 := HT'.out ▸ (HF.out.below hS6.low).o k hlt; obtain ⟨z0, z1, z2⟩ := shs_alloc hS6 k hlt))
          all_goals go_wp2_with fail
          all_goals go_roundg (n - (k + 1))
          all_goals first | omega | exact ⟨k + 1, _, by go_num, by omega, rfl, shs_own hS6 k hlt HK.out HT'.out, HO.out.yes hh _⟩
    · have hkn : Hid (k = n) := by show k = n; omega
      have i1 : ¬ (k : Int) < (n : Int) := by omega
      go_wp2_with fail
      go_ret
      have h1 := HT.out
      rw [hkn.out] at h1
      exact ⟨S, BB, RB, P, rfl, h1.1, h1.2⟩

end Go.Proofs.Qxb6616096aDoor
