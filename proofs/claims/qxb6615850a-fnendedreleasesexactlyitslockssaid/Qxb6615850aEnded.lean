import Derived.Test.Qxb6615850aRelease
namespace Go.Proofs.Qxb6615850a
open Go.RowKit
set_option linter.unusedVariables false

/-- What ended leaves. -/
def Ends (y : Lay) (n k B t : Nat) (Wf : Nat → Int) (H : Nat → Nat → Option Bool) (Rd : Nat → Nat → Option Unit) (w w' : World) : Prop :=
  St w' y n k (Wp Wf H t (fun x => (H t x).isSome)) (Hp H t (fun x => (H t x).isSome)) (Rp Rd H t (fun x => (H t x).isSome)) ∧ Below B w w'

set_option maxRecDepth 100000 in
set_option maxHeartbeats 4000000 in
theorem ended_any (y : Lay) (n k B t : Nat) (Wf : Nat → Int) (H : Nat → Nat → Option Bool) (Rd : Nat → Nat → Option Unit) (w : World) (A : Apart y n k B) (S : St w y n k Wf H Rd) (hB : B ≤ w.heap.size) (ht : t < n) (hn : n ≤ 65536) (hk : k ≤ 65536) :
    Calls Try.prog 17 #[.pointer (some (ad y.M 0)), .int .i64 t] w fun e w' => e = .returned (.tuple #[]) ∧ Ends y n k B t Wf H Rd w w' := by
  have h1 := S.fixed.mL
  have h2 := S.fixed.hold t ht
  obtain ⟨D, nn, ho, hM⟩ := S.held t ht
  have hsz : Maps.size D ≤ 65536 := by rw [hM.size]; exact Nat.le_trans (cnt_le _ _) hk
  obtain ⟨c1, c2⟩ := collect_any (y.hb t) nn D w ho hsz
  have hbl := ho.lt
  have hW : w.grownBy (w.alloc (.cells #[.map (some (y.hb t))] 41)) Option.none := World.grownBy_alloc w _ _
  have HC1 : Hid (Calls Try.prog 25 #[.map (some (y.hb t))] w fun e w' => e = .returned (.func (.func 31) #[] #[.pointer (some (ad w.heap.size 0))]) ∧ w' = w.alloc (.cells #[.map (some (y.hb t))] 41)) := c1
  have hkeys : Hid (∀ z, z ∈ intKeys D ↔ ∃ x : Nat, x < k ∧ z = (x : Int) ∧ (H t x).isSome = true) := fun z => by
    rw [mem_keys ho z]
    constructor
    · intro h
      by_cases hz : z < 0 ∨ (k : Int) ≤ z
      · rw [hM.out z hz] at h; cases h
      · obtain ⟨x, rfl⟩ := Int.eq_ofNat_of_zero_le (show 0 ≤ z by omega)
        refine ⟨x, by omega, rfl, ?_⟩
        rw [← hM.has x (by omega)]; exact h
    · rintro ⟨x, hx, rfl, hs⟩
      rw [hM.has x hx]; exact hs
  have HND : Hid (intKeys D).Nodup := nodup_keys ho
  have HLen : Hid ((intKeys D).length ≤ 65536) := by
    show (intKeys D).length ≤ 65536
    have : (intKeys D).length = Maps.size D := by
      obtain ⟨es, rfl, _⟩ := ho.keysOf
      simp [intKeys, Maps.size]
    omega
  have HC2 : Hid (Calls Try.prog 24 #[.func (.func 31) #[] #[.pointer (some (ad w.heap.size 0))]] (w.alloc (.cells #[.map (some (y.hb t))] 41)) fun e w' => ∃ (v : Value) (ss : List Int), e = .returned v ∧ ss.Perm (intKeys D) ∧
      w'.ownsRow (w.heap.size + 1) 3 1 v ss.length (ss.map (Value.int .i64)) ∧ (v = .slice Option.none 0 0 ↔ ss = []) ∧ Below (w.heap.size + 1) (w.alloc (.cells #[.map (some (y.hb t))] 41)) w') := c2
  have HS : Hid (St w y n k Wf H Rd) := S
  have HA : Hid (Apart y n k B) := A
  clear c1 c2 ho hM S A
  go_enter Try.func17, Try.ntmps17
  go_wp2_with fail
  refine HC1.out.mono ?_
  rintro e w1 ⟨rfl, rfl⟩
  go_wp2_with fail
  refine HC2.out.mono ?_
  rintro e w2 ⟨v, ss, rfl, hperm, hrow, hnil, hbel⟩
  have hB1 : Below B w (w.alloc (.cells #[.map (some (y.hb t))] 41)) := (Below.refl B w).grown hW hB (by simp)
  have hB2 : Below B w w2 := hB1.trans (hbel.mono (by omega))
  have hS2 : St w2 y n k Wf H Rd := HS.out.below ((Below.refl w.heap.size w).grown hW (Nat.le_refl _) (by simp) |>.trans (hbel.mono (by omega)))
  have hlen : ss.length ≤ 65536 := by rw [hperm.length_eq]; exact HLen.out
  have hBw2 : B ≤ w2.heap.size := Nat.le_trans hB hB2.size
  have hnd : ss.Nodup := hperm.nodup_iff.2 HND.out
  have hmem : ∀ z, z ∈ ss ↔ ∃ x : Nat, x < k ∧ z = (x : Int) ∧ (H t x).isSome = true := fun z => hperm.mem_iff.trans (hkeys.out z)
  have HE : Hid (∃ a c, v = .slice a ss.length c ∧ Calls Try.prog 23 #[.pointer (some (ad y.M 0)), .int .i64 t, .slice a ss.length c] w2 fun e w' => e = .returned (.tuple #[]) ∧ Ends y n k B t Wf H Rd w w') := by
    rcases hrow.2 with ⟨rfl, h0⟩ | ⟨g, cap, cur, rfl, hbg, hb, hcap, hmax, hcs, htk⟩
    · refine ⟨Option.none, 0, by rw [h0], ?_⟩
      have hss : ss = [] := List.eq_nil_of_length_eq_zero h0
      rw [h0]
      refine (release_nil y n k t w2 hS2.fixed ht hn).mono ?_
      rintro e w3 ⟨rfl, rfl⟩
      refine ⟨rfl, ?_, hB2⟩
      have hno : ∀ x, x < k → H t x = Option.none := fun x hx => by
        cases hh : H t x with
        | none => rfl
        | some m =>
          have := (hmem x).2 ⟨x, hx, rfl, by rw [hh]; rfl⟩
          rw [hss] at this; cases this
      refine hS2.congr (fun x hx => ?_) (fun u x _ hx => ?_) (fun x u hx _ => ?_)
      · unfold Wp; simp [hno x hx]
      · unfold Hp; simp [hno x hx]
      · unfold Rp; simp [hno x hx]
    · refine ⟨some ⟨g, 0, Option.none⟩, cap, rfl, ?_⟩
      have hrz : Rowz w2 g ss := by
        refine ⟨(hrow.lt g rfl).2, fun i hi => ?_, fun i hi => hrow.frozenAt i⟩
        rw [hrow.cellAt i (by omega)]
        simp [List.getD_eq_getElem?_getD, List.getElem?_eq_getElem hi]
      have hgf : ∀ b, b < w.heap.size → b ≠ g := fun b hb => by omega
      refine (release_any y n k B g cap t Wf H Rd ss w2 HA.out hS2 hBw2 (by omega) hrz (fun h => hgf _ (HS.out.fixed.lt _ h) rfl) (fun u hu => hgf _ (HS.out.held u hu).lt) (fun x hx => hgf _ (HS.out.rds x hx).lt) ht hn hk hnd hlen hmem).mono ?_
      rintro e w3 ⟨rfl, h3, h4⟩
      exact ⟨rfl, h3, hB2.trans h4⟩
  clear hrow hnil hbel hperm hS2 hmem hnd hkeys HND HLen HC1 HC2
  obtain ⟨a, c, rfl, HCe⟩ := HE.out
  have HCE : Hid (Calls Try.prog 23 #[.pointer (some (ad y.M 0)), .int .i64 t, .slice a ss.length c] w2 fun e w' => e = .returned (.tuple #[]) ∧ Ends y n k B t Wf H Rd w w') := HCe
  clear HCe
  clear HE
  go_wp2_with fail
  refine HCE.out.mono ?_
  rintro e w3 ⟨rfl, h3⟩
  go_wp2_with fail
  go_end0
  exact ⟨rfl, h3⟩

set_option maxHeartbeats 1000000 in
theorem zended_any (y : Lay) (n k B t : Nat) (Wf : Nat → Int) (H : Nat → Nat → Option Bool) (Rd : Nat → Nat → Option Unit) (w : World) (A : Apart y n k B) (S : St w y n k Wf H Rd) (hB : B ≤ w.heap.size) (ht : t < n) (hn : n ≤ 65536) (hk : k ≤ 65536) :
    Calls Try.prog 10 #[.pointer (some (ad y.M 0)), .int .i64 t] w fun e w' => e = .returned (.tuple #[]) ∧ Ends y n k B t Wf H Rd w w' := by
  have HC : Hid (Calls Try.prog 17 #[.pointer (some (ad y.M 0)), .int .i64 t] w fun e w' => e = .returned (.tuple #[]) ∧ Ends y n k B t Wf H Rd w w') := ended_any y n k B t Wf H Rd w A S hB ht hn hk
  clear A S
  go_enter Try.func10, Try.ntmps10
  go_wp2_with fail
  refine HC.out.mono ?_
  rintro e w3 ⟨rfl, h3⟩
  go_wp2_with fail
  go_end0
  exact ⟨rfl, h3⟩

set_option maxHeartbeats 1000000 in
theorem commits_any (v1 : Value) (t p : Int) (w : World) :
    Calls Try.prog 21 #[v1, .int .i64 t, .int .i64 p] w fun e w' => e = .returned (.bool true) ∧ w = w' := by
  go_enter Try.func21, Try.ntmps21
  go_wp2_with fail
  go_ret
  exact ⟨rfl, rfl⟩

set_option maxHeartbeats 1000000 in
theorem zcommits_any (a : Addr) (t p : Int) (w : World) :
    Calls Try.prog 13 #[.pointer (some a), .int .i64 t, .int .i64 p] w fun e w' => e = .returned (.bool true) ∧ w = w' := by
  go_enter Try.func13, Try.ntmps13
  go_wp2_with fail
  refine (commits_any _ t p _).mono ?_
  rintro e w3 ⟨rfl, rfl⟩
  go_wp2_with fail
  go_ret
  exact ⟨rfl, rfl⟩

end Go.Proofs.Qxb6615850a
