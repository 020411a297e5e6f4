import Derived.Test.Qxb6616210aHeldK
namespace Go.Proofs.Qxb6616210a
open Go.RowKit
set_option linter.unusedVariables false
set_option linter.unusedSimpArgs false
set_option maxRecDepth 100000

set_option maxHeartbeats 8000000 in
theorem shuffle1_c (RB Q P OB PB GB SB n L C : Nat) (order pos group start : Nat → Nat) (i : Nat) (hi : i < n) (hn : n ≤ 65536) (hL : L ≤ 65536) (w : World) (h : RarH RB Q P OB PB GB SB n L C order pos group start w) (hI : Inv0 n L order pos group start) :
    Calls Try.prog 42 #[.pointer (some ⟨RB, 0, Option.none⟩), .int .i64 (i : Int)] w fun e w' => e = .returned (.tuple #[]) ∧ ∃ order' pos', RarH RB Q P OB PB GB SB n L C order' pos' group start w' ∧ Inv0 n L order' pos' group start ∧ Upd (RarQ P OB PB GB) w w' := by
  obtain ⟨g, hg⟩ : ∃ g, group i = g := ⟨_, rfl⟩
  obtain ⟨px, hpx⟩ : ∃ px, pos i = px := ⟨_, rfl⟩
  obtain ⟨a, ha⟩ : ∃ a, start g = a := ⟨_, rfl⟩
  obtain ⟨b, hb⟩ : ∃ b, start (g + 1) = b := ⟨_, rfl⟩
  have hgg := hI.g i hi
  have hia := hI.a i hi
  have hip := hI.p i hi
  rw [hg] at hgg hia
  rw [ha, hb, hpx] at hia
  rw [hpx] at hip
  have hbn : b ≤ n := by rw [← hb, hI.s (g + 1) (by omega)]; exact cntLt_le _ _ _
  have H0 : Hid (RarH RB Q P OB PB GB SB n L C order pos group start w) := h
  have cg := h.r.g; have gi := h.r.rg.c i hi
  rw [hg] at gi
  have c0 := h.r.q; have c2 := h.r.p; have c4 := h.r.s
  have pi := h.r.rp.c i hi; rw [hpx] at pi
  have sa := h.r.rs.c g (by omega); rw [ha] at sa
  have sb := h.r.rs.c (g + 1) (by omega); rw [hb] at sb
  have i1 : (i : Int) < (n : Int) := by omega
  have i2 : (g : Int) < (L : Int) := by omega
  have i3 : (g : Int) + 1 < (L : Int) := by omega
  obtain ⟨g1, hg1⟩ : ∃ g1 : Nat, IntKind.i64.wrap ((g : Int) + 1) = (g1 : Int) := ⟨g + 1, by rw [IntKind.wrap_i64]; omega⟩
  have hg1' : g1 = g + 1 := by rw [IntKind.wrap_i64] at hg1; omega
  obtain ⟨m, hm⟩ : ∃ m : Nat, IntKind.i64.wrap ((b : Int) - (a : Int)) = (m : Int) := ⟨b - a, by rw [IntKind.wrap_i64]; omega⟩
  have hm' : m = b - a := by rw [IntKind.wrap_i64] at hm; omega
  have i4 : (g1 : Int) < (L : Int) := by omega
  have sb' : w.cell? ⟨SB, g1, Option.none⟩ = some (.int .i64 (b : Int)) := by rw [hg1']; exact sb
  have C48 : Hid (∀ w', RarH RB Q P OB PB GB SB n L C order pos group start w' → Calls Try.prog 48 #[.pointer (some ⟨Q, 0, Option.none⟩), .int .i64 (m : Int)] w' fun e w'' => (∃ r : Nat, e = .returned (.int .i64 (r : Int)) ∧ r < m) ∧ RarH RB Q P OB PB GB SB n L C order pos group start w'' ∧ Upd (fun p => p.block = P) w' w'') := fun w' hh => hh.intN m (by omega) (by omega)
  have HX : Hid (a ≤ px ∧ px < b ∧ b ≤ n ∧ m = b - a ∧ g + 2 ≤ L ∧ start g = a ∧ start (g + 1) = b ∧ pos i = px) := ⟨hia.1, hia.2, hbn, hm', hgg.2, ha, hb, hpx⟩
  have HY : Hid (∀ r : Nat, r < m → ∃ yy : Nat, IntKind.i64.wrap ((a : Int) + (r : Int)) = (yy : Int) ∧ a ≤ yy ∧ yy < b) := by
    intro r hr
    refine ⟨a + r, ?_, by omega, by omega⟩
    rw [IntKind.wrap_i64]; omega
  have HK : Hid (∀ w', RarH RB Q P OB PB GB SB n L C order pos group start w' → w'.cell? ⟨RB, 0, Option.none⟩ = some (.pointer (some ⟨Q, 0, Option.none⟩)) ∧ w'.cell? ⟨RB, 2, Option.none⟩ = some (.slice (some ⟨PB, 0, Option.none⟩) n n) ∧ w'.cell? ⟨RB, 4, Option.none⟩ = some (.slice (some ⟨SB, 0, Option.none⟩) L C) ∧ w'.cell? ⟨PB, i, Option.none⟩ = some (.int .i64 (px : Int)) ∧ w'.cell? ⟨SB, g, Option.none⟩ = some (.int .i64 (a : Int)) ∧ w'.cell? ⟨SB, g1, Option.none⟩ = some (.int .i64 (b : Int)) ∧ RarH RB Q P OB PB GB SB n L C order pos group start w') := by
    intro w' hh
    refine ⟨hh.r.q, hh.r.p, hh.r.s, ?_, ?_, ?_, hh⟩
    · rw [← hpx]; exact hh.r.rp.c i hi
    · rw [← ha]; exact hh.r.rs.c g (by omega)
    · rw [← hb, hg1']; exact hh.r.rs.c (g + 1) (by omega)
  have HK2' : ∀ order' pos' w', RarH RB Q P OB PB GB SB n L C order' pos' group start w' → w'.cell? ⟨RB, 0, Option.none⟩ = some (.pointer (some ⟨Q, 0, Option.none⟩)) ∧ w'.cell? ⟨RB, 2, Option.none⟩ = some (.slice (some ⟨PB, 0, Option.none⟩) n n) ∧ w'.cell? ⟨RB, 4, Option.none⟩ = some (.slice (some ⟨SB, 0, Option.none⟩) L C) ∧ w'.cell? ⟨SB, g, Option.none⟩ = some (.int .i64 (a : Int)) ∧ w'.cell? ⟨SB, g1, Option.none⟩ = some (.int .i64 (b : Int)) := by
    intro order' pos' w' hh
    refine ⟨hh.r.q, hh.r.p, hh.r.s, ?_, ?_⟩
    · rw [← ha]; exact hh.r.rs.c g (by omega)
    · rw [← hb, hg1']; exact hh.r.rs.c (g + 1) (by omega)
  have C41 : Hid (∀ (yy : Nat) w', a ≤ yy → yy < b → RarH RB Q P OB PB GB SB n L C order pos group start w' → Calls Try.prog 41 #[.pointer (some ⟨RB, 0, Option.none⟩), .int .i64 (px : Int), .int .i64 (yy : Int)] w' fun e w'' => e = .returned (.tuple #[]) ∧ (∃ order' pos', RarH RB Q P OB PB GB SB n L C order' pos' group start w'' ∧ Inv0 n L order' pos' group start) ∧ Upd (RarQ P OB PB GB) w' w'') := by
    intro yy w' h1 h2 hh
    refine (hh.swap px yy (by omega) (by omega) hn (hI.o px (by omega)).1 (hI.o yy (by omega)).1 (fun e => by rw [← (hI.o px (by omega)).2, ← (hI.o yy (by omega)).2, e])).mono ?_
    rintro e w'' ⟨rfl, h3, h4⟩
    exact ⟨rfl, ⟨_, _, h3, hI.swap (g := g) (by rw [ha, hb]; exact hia) (by rw [ha, hb]; exact ⟨h1, h2⟩) (by omega) (by omega) hgg.2⟩, h4⟩
  clear h hgg hia hip hbn sb hb ha hpx hg hm' hg1' i3 hI
  go_enter Try.func42, Try.ntmps42
  go_wp2_with fail
  have HK2 : Hid (∀ order' pos' w', RarH RB Q P OB PB GB SB n L C order' pos' group start w' → w'.cell? ⟨RB, 0, Option.none⟩ = some (.pointer (some ⟨Q, 0, Option.none⟩)) ∧ w'.cell? ⟨RB, 2, Option.none⟩ = some (.slice (some ⟨PB, 0, Option.none⟩) n n) ∧ w'.cell? ⟨RB, 4, Option.none⟩ = some (.slice (some ⟨SB, 0, Option.none⟩) L C) ∧ w'.cell? ⟨SB, g, Option.none⟩ = some (.int .i64 (a : Int)) ∧ w'.cell? ⟨SB, g1, Option.none⟩ = some (.int .i64 (b : Int))) := HK2'
  clear HK2'
  refine wp_region_K (fun w' => w'.cell? ⟨RB, 0, Option.none⟩ = some (.pointer (some ⟨Q, 0, Option.none⟩)) ∧ w'.cell? ⟨RB, 2, Option.none⟩ = some (.slice (some ⟨PB, 0, Option.none⟩) n n) ∧ w'.cell? ⟨RB, 4, Option.none⟩ = some (.slice (some ⟨SB, 0, Option.none⟩) L C) ∧ w'.cell? ⟨SB, g, Option.none⟩ = some (.int .i64 (a : Int)) ∧ w'.cell? ⟨SB, g1, Option.none⟩ = some (.int .i64 (b : Int))) (fun w' => w'.cell? ⟨PB, i, Option.none⟩ = some (.int .i64 (px : Int))) 7 (by kernel_rfl) ⟨by simp [*], by simp [*], by simp [*], by simp [*], by simp [*]⟩ (by simp [*]) (fun hHeld hT => ?_)
  refine wpAnyK_take (i := 0) (oi := ?oi0) (v := ?v0) ?hi0 (by kernel_rfl) (by kernel_rfl) (by kernel_rfl) ?hq0 ?hy0 hHeld (fun _ => hT) ?rest0
  case hi0 => (simp only [List.getElem?_toArray, List.getElem?_cons_zero, List.getElem?_cons_succ]; rfl)
  case hq0 => exact fun _ _ _ h => h
  case hy0 => (refine Or.inl ⟨by rfl, ?_⟩; intro w hSw; (try dsimp only at hSw); go_simp; (try with_reducible rfl))
  simp only [Act.put, List.setIfInBounds_toArray, List.set_cons_zero, List.set_cons_succ]
  refine wpAnyK_take (i := 1) (oi := ?oi1) (v := ?v1) ?hi1 (by kernel_rfl) (by kernel_rfl) (by kernel_rfl) ?hq1 ?hy1 hHeld (fun _ => hT) ?rest1
  case hi1 => (simp only [List.getElem?_toArray, List.getElem?_cons_zero, List.getElem?_cons_succ]; rfl)
  case hq1 => exact fun _ _ _ h => h
  case hy1 => (refine Or.inl ⟨by rfl, ?_⟩; intro w hSw; (try dsimp only at hSw); go_simp; (try with_reducible rfl))
  simp only [Act.put, List.setIfInBounds_toArray, List.set_cons_zero, List.set_cons_succ]
  refine wpAnyK_take (i := 2) (oi := ?oi2) (v := ?v2) ?hi2 (by kernel_rfl) (by kernel_rfl) (by kernel_rfl) ?hq2 ?hy2 hHeld (fun _ => hT) ?rest2
  case hi2 => (simp only [List.getElem?_toArray, List.getElem?_cons_zero, List.getElem?_cons_succ]; rfl)
  case hq2 => exact fun _ _ _ h => h
  case hy2 => (refine Or.inl ⟨by rfl, ?_⟩; intro w hSw; (try dsimp only at hSw); go_simp; (try with_reducible rfl))
  simp only [Act.put, List.setIfInBounds_toArray, List.set_cons_zero, List.set_cons_succ]
  refine wpAnyK_take (i := 3) (oi := ?oi3) (v := ?v3) ?hi3 (by kernel_rfl) (by kernel_rfl) (by kernel_rfl) ?hq3 ?hy3 hHeld (fun _ => hT) ?rest3
  case hi3 => (simp only [List.getElem?_toArray, List.getElem?_cons_zero, List.getElem?_cons_succ]; rfl)
  case hq3 => exact fun _ _ _ h => h
  case hy3 => (refine Or.inl ⟨by rfl, ?_⟩; intro w hSw; (try dsimp only at hSw); go_simp; (try with_reducible rfl))
  simp only [Act.put, List.setIfInBounds_toArray, List.set_cons_zero, List.set_cons_succ]
  refine wpAnyK_take (i := 4) (oi := ?oi4) (v := ?v4) ?hi4 (by kernel_rfl) (by kernel_rfl) (by kernel_rfl) ?hq4 ?hy4 hHeld (fun _ => hT) ?rest4
  case hi4 => (simp only [List.getElem?_toArray, List.getElem?_cons_zero, List.getElem?_cons_succ]; rfl)
  case hq4 => exact fun _ _ _ h => h
  case hy4 => (refine Or.inl ⟨by rfl, ?_⟩; intro w hSw; (try dsimp only at hSw); go_simp; (try with_reducible rfl))
  simp only [Act.put, List.setIfInBounds_toArray, List.set_cons_zero, List.set_cons_succ]
  refine wpAnyK_take (i := 5) (oi := ?oi5) (v := ?v5) ?hi5 (by kernel_rfl) (by kernel_rfl) (by kernel_rfl) ?hq5 ?hy5 hHeld (fun _ => hT) ?rest5
  case hi5 => (simp only [List.getElem?_toArray, List.getElem?_cons_zero, List.getElem?_cons_succ]; rfl)
  case hq5 => exact fun _ _ _ h => h
  case hy5 => (refine Or.inl ⟨by rfl, ?_⟩; intro w hSw; (try dsimp only at hSw); go_simp; (try with_reducible rfl))
  simp only [Act.put, List.setIfInBounds_toArray, List.set_cons_zero, List.set_cons_succ]
  refine wpAnyK_take (i := 6) (oi := ?oi6) (v := ?v6) ?hi6 (by kernel_rfl) (by kernel_rfl) (by kernel_rfl) ?hq6 ?hy6 hHeld (fun _ => hT) ?rest6
  case hi6 => (simp only [List.getElem?_toArray, List.getElem?_cons_zero, List.getElem?_cons_succ]; rfl)
  case hq6 => exact fun _ _ _ h => h
  case hy6 => (refine Or.inl ⟨by rfl, ?_⟩; intro w hSw; (try dsimp only at hSw); go_simp; (try with_reducible rfl))
  simp only [Act.put, List.setIfInBounds_toArray, List.set_cons_zero, List.set_cons_succ]
  refine wpAnyK_takeK (oi := ?oi7) (v := ?v7) ?hi7 (by kernel_rfl) (by kernel_rfl) (by kernel_rfl) ?hq7 ?hy7 hHeld hT ?rest7
  case hi7 => (simp only [List.getElem?_toArray, List.getElem?_cons_zero, List.getElem?_cons_succ]; rfl)
  case hq7 => exact fun _ _ _ h => h
  case hy7 => (refine Or.inl ⟨by rfl, ?_⟩; intro w hSw; (try dsimp only at hSw); go_simp; (try with_reducible rfl))
  simp only [Act.put, List.setIfInBounds_toArray, List.set_cons_zero, List.set_cons_succ]
  refine wpAnyK_take (i := 8) (oi := ?oi8) (v := ?v8) ?hi8 (by kernel_rfl) (by kernel_rfl) (by kernel_rfl) ?hq8 ?hy8 hHeld (fun _ => hT) ?rest8
  case hi8 => (simp only [List.getElem?_toArray, List.getElem?_cons_zero, List.getElem?_cons_succ]; rfl)
  case hq8 => exact fun _ _ _ h => h
  case hy8 => (refine Or.inl ⟨by rfl, ?_⟩; intro w hSw; (try dsimp only at hSw); go_simp; (try with_reducible rfl))
  simp only [Act.put, List.setIfInBounds_toArray, List.set_cons_zero, List.set_cons_succ]
  refine wpAnyK_take (i := 9) (oi := ?oi9) (v := ?v9) ?hi9 (by kernel_rfl) (by kernel_rfl) (by kernel_rfl) ?hq9 ?hy9 hHeld (fun _ => hT) ?rest9
  case hi9 => (simp only [List.getElem?_toArray, List.getElem?_cons_zero, List.getElem?_cons_succ]; rfl)
  case hq9 => exact fun _ _ _ h => h
  case hy9 => (refine Or.inl ⟨by rfl, ?_⟩; intro w hSw; (try dsimp only at hSw); go_simp; (try with_reducible rfl))
  simp only [Act.put, List.setIfInBounds_toArray, List.set_cons_zero, List.set_cons_succ]
  refine wpAnyK_take (i := 10) (oi := ?oi10) (v := ?v10) ?hi10 (by kernel_rfl) (by kernel_rfl) (by kernel_rfl) ?hq10 ?hy10 hHeld (fun _ => hT) ?rest10
  case hi10 => (simp only [List.getElem?_toArray, List.getElem?_cons_zero, List.getElem?_cons_succ]; rfl)
  case hq10 => exact fun _ _ _ h => h
  case hy10 => (refine Or.inl ⟨by rfl, ?_⟩; intro w hSw; (try dsimp only at hSw); go_simp; (try with_reducible rfl))
  simp only [Act.put, List.setIfInBounds_toArray, List.set_cons_zero, List.set_cons_succ]
  refine wpAnyK_take (i := 11) (oi := ?oi11) (v := ?v11) ?hi11 (by kernel_rfl) (by kernel_rfl) (by kernel_rfl) ?hq11 ?hy11 hHeld (fun _ => hT) ?rest11
  case hi11 => (simp only [List.getElem?_toArray, List.getElem?_cons_zero, List.getElem?_cons_succ]; rfl)
  case hq11 => exact fun _ _ _ h => h
  case hy11 => (refine Or.inl ⟨by rfl, ?_⟩; intro w hSw; (try dsimp only at hSw); go_simp; (try with_reducible rfl))
  simp only [Act.put, List.setIfInBounds_toArray, List.set_cons_zero, List.set_cons_succ]
  refine wpAnyK_take (i := 12) (oi := ?oi12) (v := ?v12) ?hi12 (by kernel_rfl) (by kernel_rfl) (by kernel_rfl) ?hq12 ?hy12 hHeld (fun _ => hT) ?rest12
  case hi12 => (simp only [List.getElem?_toArray, List.getElem?_cons_zero, List.getElem?_cons_succ]; rfl)
  case hq12 => exact fun _ _ _ h => h
  case hy12 => (refine Or.inl ⟨by rfl, ?_⟩; intro w hSw; (try dsimp only at hSw); go_simp; (try with_reducible rfl))
  simp only [Act.put, List.setIfInBounds_toArray, List.set_cons_zero, List.set_cons_succ]
  refine wpAnyK_take (i := 13) (oi := ?oi13) (v := ?v13) ?hi13 (by kernel_rfl) (by kernel_rfl) (by kernel_rfl) ?hq13 ?hy13 hHeld (fun _ => hT) ?rest13
  case hi13 => (simp only [List.getElem?_toArray, List.getElem?_cons_zero, List.getElem?_cons_succ]; rfl)
  case hq13 => exact fun _ _ _ h => h
  case hy13 => (refine Or.inl ⟨by rfl, ?_⟩; intro w hSw; (try dsimp only at hSw); go_simp; (try with_reducible rfl))
  simp only [Act.put, List.setIfInBounds_toArray, List.set_cons_zero, List.set_cons_succ]
  refine wpAnyK_take (i := 14) (oi := ?oi14) (v := ?v14) ?hi14 (by kernel_rfl) (by kernel_rfl) (by kernel_rfl) ?hq14 ?hy14 hHeld (fun _ => hT) ?rest14
  case hi14 => (simp only [List.getElem?_toArray, List.getElem?_cons_zero, List.getElem?_cons_succ]; rfl)
  case hq14 => exact fun _ _ _ h => h
  case hy14 => (refine Or.inl ⟨by rfl, ?_⟩; intro w hSw; (try dsimp only at hSw); go_simp; (try with_reducible rfl))
  simp only [Act.put, List.setIfInBounds_toArray, List.set_cons_zero, List.set_cons_succ]
  refine wpAnyK_take (i := 15) (oi := ?oi15) (v := ?v15) ?hi15 (by kernel_rfl) (by kernel_rfl) (by kernel_rfl) ?hq15 ?hy15 hHeld (fun _ => hT) ?rest15
  case hi15 => (simp only [List.getElem?_toArray, List.getElem?_cons_zero, List.getElem?_cons_succ]; rfl)
  case hq15 => exact fun _ _ _ h => h
  case hy15 => (refine Or.inl ⟨by rfl, ?_⟩; intro w hSw; (try dsimp only at hSw); go_simp; (try with_reducible rfl))
  simp only [Act.put, List.setIfInBounds_toArray, List.set_cons_zero, List.set_cons_succ]
  refine wpAnyK_take (i := 16) (oi := ?oi16) (v := ?v16) ?hi16 (by kernel_rfl) (by kernel_rfl) (by kernel_rfl) ?hq16 ?hy16 hHeld (fun _ => hT) ?rest16
  case hi16 => (simp only [List.getElem?_toArray, List.getElem?_cons_zero, List.getElem?_cons_succ]; rfl)
  case hq16 => exact fun _ _ _ h => h
  case hy16 => (refine Or.inl ⟨by rfl, ?_⟩; intro w hSw; (try dsimp only at hSw); go_simp; (try with_reducible rfl))
  simp only [Act.put, List.setIfInBounds_toArray, List.set_cons_zero, List.set_cons_succ]
  refine wpAnyK_take (i := 17) (oi := ?oi17) (v := ?v17) ?hi17 (by kernel_rfl) (by kernel_rfl) (by kernel_rfl) ?hq17 ?hy17 hHeld (fun _ => hT) ?rest17
  case hi17 => (simp only [List.getElem?_toArray, List.getElem?_cons_zero, List.getElem?_cons_succ]; rfl)
  case hq17 => exact fun _ _ _ h => h
  case hy17 => (refine Or.inl ⟨by rfl, ?_⟩; intro w hSw; (try dsimp only at hSw); go_simp; (try with_reducible rfl))
  simp only [Act.put, List.setIfInBounds_toArray, List.set_cons_zero, List.set_cons_succ]
  refine wpAnyK_take (i := 18) (oi := ?oi18) (v := ?v18) ?hi18 (by kernel_rfl) (by kernel_rfl) (by kernel_rfl) ?hq18 ?hy18 hHeld (fun _ => hT) ?rest18
  case hi18 => (simp only [List.getElem?_toArray, List.getElem?_cons_zero, List.getElem?_cons_succ]; rfl)
  case hq18 => exact fun _ _ _ h => h
  case hy18 => (refine Or.inl ⟨by rfl, ?_⟩; intro w hSw; (try dsimp only at hSw); go_simp; (try with_reducible rfl))
  simp only [Act.put, List.setIfInBounds_toArray, List.set_cons_zero, List.set_cons_succ]
  refine wpAnyK_take (i := 19) (oi := ?oi19) (v := ?v19) ?hi19 (by kernel_rfl) (by kernel_rfl) (by kernel_rfl) ?hq19 ?hy19 hHeld (fun _ => hT) ?rest19
  case hi19 => (simp only [List.getElem?_toArray, List.getElem?_cons_zero, List.getElem?_cons_succ]; rfl)
  case hq19 => exact fun _ _ _ h => h
  case hy19 => (refine Or.inl ⟨by rfl, ?_⟩; intro w hSw; (try dsimp only at hSw); go_simp; (try with_reducible rfl))
  simp only [Act.put, List.setIfInBounds_toArray, List.set_cons_zero, List.set_cons_succ]
  refine wpAnyK_take (i := 20) (oi := ?oi20) (v := ?v20) ?hi20 (by kernel_rfl) (by kernel_rfl) (by kernel_rfl) ?hq20 ?hy20 hHeld (fun _ => hT) ?rest20
  case hi20 => (simp only [List.getElem?_toArray, List.getElem?_cons_zero, List.getElem?_cons_succ]; rfl)
  case hq20 => exact fun _ _ _ h => h
  case hy20 => (refine Or.inl ⟨by rfl, ?_⟩; intro w hSw; (try dsimp only at hSw); go_simp; (try with_reducible rfl))
  simp only [Act.put, List.setIfInBounds_toArray, List.set_cons_zero, List.set_cons_succ]
  refine wpAnyK_take (i := 21) (oi := ?oi21) (v := ?v21) ?hi21 (by kernel_rfl) (by kernel_rfl) (by kernel_rfl) ?hq21 ?hy21 hHeld (fun _ => hT) ?rest21
  case hi21 => (simp only [List.getElem?_toArray, List.getElem?_cons_zero, List.getElem?_cons_succ]; rfl)
  case hq21 => exact fun _ _ _ h => h
  case hy21 => (refine Or.inl ⟨by rfl, ?_⟩; intro w hSw; (try dsimp only at hSw); go_simp; (try with_reducible rfl))
  simp only [Act.put, List.setIfInBounds_toArray, List.set_cons_zero, List.set_cons_succ]
  refine wpAnyK_take (i := 22) (oi := ?oi22) (v := ?v22) ?hi22 (by kernel_rfl) (by kernel_rfl) (by kernel_rfl) ?hq22 ?hy22 hHeld (fun _ => hT) ?rest22
  case hi22 => (simp only [List.getElem?_toArray, List.getElem?_cons_zero, List.getElem?_cons_succ]; rfl)
  case hq22 => exact fun _ _ _ h => h
  case hy22 => (refine Or.inl ⟨by rfl, ?_⟩; intro w hSw; (try dsimp only at hSw); go_simp; (try with_reducible rfl))
  simp only [Act.put, List.setIfInBounds_toArray, List.set_cons_zero, List.set_cons_succ]
  refine wpAnyK_take (i := 23) (oi := ?oi23) (v := ?v23) ?hi23 (by kernel_rfl) (by kernel_rfl) (by kernel_rfl) ?hq23 ?hy23 hHeld (fun _ => hT) ?rest23
  case hi23 => (simp only [List.getElem?_toArray, List.getElem?_cons_zero, List.getElem?_cons_succ]; rfl)
  case hq23 => exact fun _ _ _ h => h
  case hy23 => (refine Or.inl ⟨by rfl, ?_⟩; intro w hSw; (try dsimp only at hSw); go_simp; (try with_reducible rfl))
  simp only [Act.put, List.setIfInBounds_toArray, List.set_cons_zero, List.set_cons_succ]
  refine wpAnyK_take (i := 24) (oi := ?oi24) (v := ?v24) ?hi24 (by kernel_rfl) (by kernel_rfl) (by kernel_rfl) ?hq24 ?hy24 hHeld (fun _ => hT) ?rest24
  case hi24 => (simp only [List.getElem?_toArray, List.getElem?_cons_zero, List.getElem?_cons_succ]; rfl)
  case hq24 => exact fun _ _ _ h => h
  case hy24 => (refine Or.inl ⟨by rfl, ?_⟩; intro w hSw; (try dsimp only at hSw); go_simp; (try with_reducible rfl))
  simp only [Act.put, List.setIfInBounds_toArray, List.set_cons_zero, List.set_cons_succ]
  refine wpAnyK_take (i := 25) (oi := ?oi25) (v := ?v25) ?hi25 (by kernel_rfl) (by kernel_rfl) (by kernel_rfl) ?hq25 ?hy25 hHeld (fun _ => hT) ?rest25
  case hi25 => (simp only [List.getElem?_toArray, List.getElem?_cons_zero, List.getElem?_cons_succ]; rfl)
  case hq25 => exact fun _ _ _ h => h
  case hy25 => (refine Or.inl ⟨by rfl, ?_⟩; intro w hSw; (try dsimp only at hSw); go_simp; (try with_reducible rfl))
  simp only [Act.put, List.setIfInBounds_toArray, List.set_cons_zero, List.set_cons_succ]
  refine wpAnyK_take (i := 26) (oi := ?oi26) (v := ?v26) ?hi26 (by kernel_rfl) (by kernel_rfl) (by kernel_rfl) ?hq26 ?hy26 hHeld (fun _ => hT) ?rest26
  case hi26 => (simp only [List.getElem?_toArray, List.getElem?_cons_zero, List.getElem?_cons_succ]; rfl)
  case hq26 => exact fun _ _ _ h => h
  case hy26 => (refine Or.inl ⟨by rfl, ?_⟩; intro w hSw; (try dsimp only at hSw); go_simp; (try with_reducible rfl))
  simp only [Act.put, List.setIfInBounds_toArray, List.set_cons_zero, List.set_cons_succ]
  refine wpAnyK_take (i := 27) (oi := ?oi27) (v := ?v27) ?hi27 (by kernel_rfl) (by kernel_rfl) (by kernel_rfl) ?hq27 ?hy27 hHeld (fun _ => hT) ?rest27
  case hi27 => (simp only [List.getElem?_toArray, List.getElem?_cons_zero, List.getElem?_cons_succ]; rfl)
  case hq27 => exact fun _ _ _ h => h
  case hy27 => (refine Or.inl ⟨by rfl, ?_⟩; intro w hSw; (try dsimp only at hSw); go_simp; (try with_reducible rfl))
  simp only [Act.put, List.setIfInBounds_toArray, List.set_cons_zero, List.set_cons_succ]
  refine wpAnyK_take (i := 28) (oi := ?oi28) (v := ?v28) ?hi28 (by kernel_rfl) (by kernel_rfl) (by kernel_rfl) ?hq28 ?hy28 hHeld (fun _ => hT) ?rest28
  case hi28 => (simp only [List.getElem?_toArray, List.getElem?_cons_zero, List.getElem?_cons_succ]; rfl)
  case hq28 => exact fun _ _ _ h => h
  case hy28 => (refine Or.inl ⟨by rfl, ?_⟩; intro w hSw; (try dsimp only at hSw); go_simp; (try with_reducible rfl))
  simp only [Act.put, List.setIfInBounds_toArray, List.set_cons_zero, List.set_cons_succ]
  refine wpAnyK_take (i := 29) (oi := ?oi29) (v := ?v29) ?hi29 (by kernel_rfl) (by kernel_rfl) (by kernel_rfl) ?hq29 ?hy29 hHeld (fun _ => hT) ?rest29
  case hi29 => (simp only [List.getElem?_toArray, List.getElem?_cons_zero, List.getElem?_cons_succ]; rfl)
  case hq29 => exact fun _ _ _ h => h
  case hy29 => (refine Or.inl ⟨by rfl, ?_⟩; intro w hSw; (try dsimp only at hSw); go_simp; (try with_reducible rfl))
  simp only [Act.put, List.setIfInBounds_toArray, List.set_cons_zero, List.set_cons_succ]
  refine wpAnyK_take (i := 30) (oi := ?oi30) (v := ?v30) ?hi30 (by kernel_rfl) (by kernel_rfl) (by kernel_rfl) ?hq30 ?hy30 hHeld (fun _ => hT) ?rest30
  case hi30 => (simp only [List.getElem?_toArray, List.getElem?_cons_zero, List.getElem?_cons_succ]; rfl)
  case hq30 => exact fun _ _ _ h => h
  case hy30 => (refine Or.inl ⟨by rfl, ?_⟩; intro w hSw; (try dsimp only at hSw); go_simp; (try with_reducible rfl))
  simp only [Act.put, List.setIfInBounds_toArray, List.set_cons_zero, List.set_cons_succ]
  refine wpAnyK_take (i := 31) (oi := ?oi31) (v := ?v31) ?hi31 (by kernel_rfl) (by kernel_rfl) (by kernel_rfl) ?hq31 ?hy31 hHeld (fun _ => hT) ?rest31
  case hi31 => (simp only [List.getElem?_toArray, List.getElem?_cons_zero, List.getElem?_cons_succ]; rfl)
  case hq31 => exact fun _ _ _ h => h
  case hy31 => (refine Or.inl ⟨by rfl, ?_⟩; intro w hSw; (try dsimp only at hSw); go_simp; (try with_reducible rfl))
  simp only [Act.put, List.setIfInBounds_toArray, List.set_cons_zero, List.set_cons_succ]
  refine wpAnyK_take (i := 32) (oi := ?oi32) (v := ?v32) ?hi32 (by kernel_rfl) (by kernel_rfl) (by kernel_rfl) ?hq32 ?hy32 hHeld (fun _ => hT) ?rest32
  case hi32 => (simp only [List.getElem?_toArray, List.getElem?_cons_zero, List.getElem?_cons_succ]; rfl)
  case hq32 => exact fun _ _ _ h => h
  case hy32 => (refine Or.inl ⟨by rfl, ?_⟩; intro w hSw; (try dsimp only at hSw); go_simp; (try with_reducible rfl))
  simp only [Act.put, List.setIfInBounds_toArray, List.set_cons_zero, List.set_cons_succ]
  refine wpAnyK_take (i := 33) (oi := ?oi33) (v := ?v33) ?hi33 (by kernel_rfl) (by kernel_rfl) (by kernel_rfl) ?hq33 ?hy33 hHeld (fun _ => hT) ?rest33
  case hi33 => (simp only [List.getElem?_toArray, List.getElem?_cons_zero, List.getElem?_cons_succ]; rfl)
  case hq33 => exact fun _ _ _ h => h
  case hy33 => (refine Or.inl ⟨by rfl, ?_⟩; intro w hSw; (try dsimp only at hSw); go_simp; (try with_reducible rfl))
  simp only [Act.put, List.setIfInBounds_toArray, List.set_cons_zero, List.set_cons_succ]
  refine wpAnyK_take (i := 34) (oi := ?oi34) (v := ?v34) ?hi34 (by kernel_rfl) (by kernel_rfl) (by kernel_rfl) ?hq34 ?hy34 hHeld (fun _ => hT) ?rest34
  case hi34 => (simp only [List.getElem?_toArray, List.getElem?_cons_zero, List.getElem?_cons_succ]; rfl)
  case hq34 => exact fun _ _ _ h => h
  case hy34 => (refine Or.inl ⟨by rfl, ?_⟩; intro w hSw; (try dsimp only at hSw); go_simp; (try with_reducible rfl))
  simp only [Act.put, List.setIfInBounds_toArray, List.set_cons_zero, List.set_cons_succ]
  refine wpAnyK_one (i := 35) (o := ?o35) (by kernel_rfl) ?hi35 ?st35
  case hi35 => (simp only [List.getElem?_toArray, List.getElem?_cons_zero, List.getElem?_cons_succ]; rfl)
  case st35 =>
  intro K hK
  go_simp
  refine (C48.out _ H0.out.drew).mono ?_
  rintro e w5 ⟨⟨r, rfl, hr⟩, hS5, hU5⟩
  have k3 := (HK.out _ hS5).2.2.2.1
  obtain ⟨yy, hyy, hy1, hy2⟩ := HY.out r hr
  have hH5 := HK2.out _ _ _ hS5
  go_wp2_with fail
  refine hK.out _ _ hH5 (fun _ _ => k3) ?_
  try simp only [Act.put, List.setIfInBounds_toArray, List.set_cons_zero, List.set_cons_succ]
  clear hK K hHeld hT
  refine wpAnyK_take (i := 36) (oi := ?oi36) (v := ?v36) ?hi36 (by kernel_rfl) (by kernel_rfl) (by kernel_rfl) ?hq36 ?hy36 hH5 (fun _ => k3) ?rest36
  case hi36 => (simp only [List.getElem?_toArray, List.getElem?_cons_zero, List.getElem?_cons_succ]; rfl)
  case hq36 => exact fun _ _ _ h => h
  case hy36 => (refine Or.inl ⟨by rfl, ?_⟩; intro w hSw; (try dsimp only at hSw); go_simp; (try with_reducible rfl))
  simp only [Act.put, List.setIfInBounds_toArray, List.set_cons_zero, List.set_cons_succ]
  refine wpAnyK_one (i := 37) (o := ?o37) (by kernel_rfl) ?hi37 ?st37
  case hi37 => (simp only [List.getElem?_toArray, List.getElem?_cons_zero, List.getElem?_cons_succ]; rfl)
  case st37 =>
  intro K hK
  go_simp
  refine (C41.out _ _ hy1 hy2 hS5).mono ?_
  rintro e w6 ⟨rfl, hS6, hU6⟩
  go_wp2_with fail
  refine hK.out _ _ (HK2.out _ _ _ hS6.choose_spec.choose_spec.1) (fun h => Bool.noConfusion (h.symm.trans (by kernel_rfl) : false = true)) ?_
  try simp only [Act.put, List.setIfInBounds_toArray, List.set_cons_zero, List.set_cons_succ]
  clear hK K
  refine wpAnyK_done (by kernel_rfl) ?_ _
  go_wp2_with fail
  simp [bodyPost, results, Try.results42, go_sem]
  exact ⟨hS6.choose, hS6.choose_spec.choose, hS6.choose_spec.choose_spec.1, hS6.choose_spec.choose_spec.2, ((Upd.refl _ _).drew.trans (hU5.mono (fun p hp => .inl hp))).trans hU6⟩

end Go.Proofs.Qxb6616210a
