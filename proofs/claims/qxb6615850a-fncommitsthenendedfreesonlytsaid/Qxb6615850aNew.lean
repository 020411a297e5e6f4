import Derived.Test.Qxb6615850aBuild2
namespace Go.Proofs.Qxb6615850a
open Go.RowKit
set_option linter.unusedVariables false

/-- A new locking, of the table. -/
def RetNew (ws : Row) (R : Nat → Row) (n k : Nat) (w : World) (e : Ending) (w' : World) : Prop :=
  ∃ y : Lay, e = .returned (.pointer (some (ad y.M 0))) ∧ Apart y n k w.heap.size ∧ St w' y n k (Wd ws (fun _ => false)) (Hd ws R (fun _ => false)) (Rdd R (fun _ => false)) ∧ Below w.heap.size w w'

/-- The lists as rows. -/
theorem HL.rows {w : World} {B n T : Nat} {P : Bool → Nat} {f : Bool → Nat → List Int} {v : Bool → Nat → Value} (h : HL w B n P f v) (c : Bool) (hn : n ≤ 65536) (hT : T ≤ 1000000) (hl : ∀ u, u < n → (f c u).length ≤ T) (hz : ∀ u, u < n → ∀ z ∈ f c u, (Lit.int .i64 z).wf = true) :
    ∃ X : Nat → Row, IsRows w (some (ad (P c) 0)) n X ∧ (∀ u, u < n → (X u).zs = f c u) ∧ ∀ u, u < n → (X u).len = (f c u).length := by
  have hrow : ∀ u, ∃ r : Row, u < n → v c u = .slice r.a r.len r.cap ∧ IsRow w r ∧ r.zs = f c u ∧ r.len = (f c u).length := fun u => by
    by_cases hu : u < n
    · have ho := h.row c u hu
      rcases ho.2 with ⟨hv, h0⟩ | ⟨g, cap, cur, hv, hbg, hb, hcap, hmax, hcs, htk⟩
      · refine ⟨⟨Option.none, 0, 0, f c u⟩, fun _ => ⟨hv, ⟨by simpa using h0, by simp, fun h => by simp at h, hz u hu⟩, rfl, h0.symm⟩⟩
      · refine ⟨⟨some ⟨g, 0, Option.none⟩, (f c u).length, cap, f c u⟩, fun _ => ⟨hv, ⟨rfl, ?_, fun _ => ⟨g, 0, rfl, ?_, fun i hi => ?_⟩, hz u hu⟩, rfl, rfl⟩⟩
        · have := hl u hu; unfold maxLen; dsimp only; omega
        · rw [hv] at ho; exact (ho.lt g rfl).2
        · rw [hv] at ho
          dsimp only at hi ⊢
          rw [Nat.zero_add, ho.cellAt i (by omega)]
          simp [List.getD_eq_getElem?_getD, List.getElem?_eq_getElem hi]
    · exact ⟨⟨Option.none, 0, 0, []⟩, fun h => absurd h hu⟩
  obtain ⟨X, hX⟩ := Classical.axiomOfChoice hrow
  refine ⟨X, ⟨by unfold maxLen; omega, fun _ => ⟨P c, 0, rfl, (h.lo c).2, fun i hi => ?_⟩, fun i hi => (hX i hi).2.1⟩, fun u hu => (hX u hu).2.2.1, fun u hu => (hX u hu).2.2.2⟩
  rw [Nat.zero_add, ← (hX i hi).1]; exact h.cell c i hi

set_option maxRecDepth 100000 in
set_option maxHeartbeats 4000000 in
theorem new_any (s : ByteArray) (ts ws : Row) (a : Option Addr) (k c n : Nat) (R : Nat → Row) (w : World) (ht : IsRow w ts) (hw : IsRow w ws) (hR : IsRows w a k R) (hok : TableOK n ws k R) (hts : ts.len = n) (hn : n ≤ 65536) (hk : k ≤ 65536) (hT : total R k ≤ 131072) :
    Calls Try.prog 9 #[.string s, .slice ts.a ts.len ts.cap, .slice ws.a ws.len ws.cap, .slice a k c] w (RetNew ws R n k w) := by
  have HL15 : Hid (Calls Try.prog 15 #[.int .i64 n, .slice ws.a ws.len ws.cap, .slice a k c] w (RetL ws R n k w)) := lists_any ws a k c n R w hw hR hok hn hk hT
  have hRl : ∀ x, x < k → (R x).len ≤ 200000 := fun x hx => by
    have := total_mono R (x + 1) k (by omega)
    simp only [total] at this
    omega
  obtain ⟨ta, tl, tcp, tz⟩ := ts
  obtain ⟨wa, wl, wcp, wz⟩ := ws
  have hkw : k = wl := hok.1
  dsimp only at hts HL15
  subst hts hkw
  have H16 : Hid (∀ w', Below w.heap.size w w' → (∃ f v, Lw ⟨wa, k, wcp, wz⟩ R tl w k k [] 0 (k + total R k) f v w') →
      Calls Try.prog 16 #[.string s, .slice ta tl tcp, .slice wa k wcp, .slice a k c, .slice (some (ad w.heap.size 0)) tl tl, .slice (some (ad (w.heap.size + 1) 0)) tl tl] w' (RetNew ⟨wa, k, wcp, wz⟩ R tl k w)) := by
    rintro w' hb ⟨f, v, hL⟩
    have wfX : ∀ u, u < tl → ∀ z ∈ f true u, (Lit.int .i64 z).wf = true := fun u hu z hz => by
      obtain ⟨q, h1, rfl, _⟩ := (hL.xs u z hu).1 hz
      exact wf_small q (by omega)
    have wfS : ∀ u, u < tl → ∀ z ∈ f false u, (Lit.int .i64 z).wf = true := fun u hu z hz => by
      obtain ⟨q, rfl, h1⟩ := (hL.ss u z hu).1 hz
      exact wf_small q (by omega)
    obtain ⟨X, x1, x2, x3⟩ := hL.hl.rows (T := k + total R k) true hn (by omega) (fun u hu => hL.len true u hu) wfX
    obtain ⟨S, s1, s2, s3⟩ := hL.hl.rows (T := k + total R k) false hn (by omega) (fun u hu => hL.len false u hu) wfS
    simp only [if_true] at x1
    simp only [Bool.false_eq_true, if_false] at s1
    refine (build_any s ta tl tcp tz wa wcp wz a k c R (some (ad w.heap.size 0)) tl X (some (ad (w.heap.size + 1) 0)) tl S w' (ht.below hb) (hw.below hb) (hR.below hb) x1 s1 hn hk hok.2 (fun u z hu => by rw [x2 u hu]; exact hL.xs u z hu) (fun u z hu => by rw [s2 u hu]; exact hL.ss u z hu)
      (fun u hu => by rw [x3 u hu]; have := hL.len true u hu; omega) (fun u hu => by rw [s3 u hu]; have := hL.len false u hu; omega) hRl).mono ?_
    rintro e w2 ⟨y, rfl, hA, hSt, hB⟩
    have hsz := hb.size
    exact ⟨y, rfl, ⟨hA.hbf, hA.rbf, hA.hr, hA.hh, hA.rr, hA.ib, fun u hu => Nat.le_trans hsz (hA.bh u hu), fun u hu => Nat.le_trans hsz (hA.br u hu), Nat.le_trans hsz hA.bi⟩, hSt, hb.trans (hB.mono hsz)⟩
  clear ht hw hR hok hRl
  go_enter Try.func9, Try.ntmps9
  go_wp2_with fail
  refine HL15.out.mono ?_
  rintro e w1 ⟨rfl, hL⟩
  have HC := H16.out w1 (by obtain ⟨f, v, h⟩ := hL; exact h.low) hL
  have HC' : Hid (Calls Try.prog 16 #[.string s, .slice ta tl tcp, .slice wa k wcp, .slice a k c, .slice (some (ad w.heap.size 0)) tl tl, .slice (some (ad (w.heap.size + 1) 0)) tl tl] w1 (RetNew ⟨wa, k, wcp, wz⟩ R tl k w)) := HC
  clear HC hL H16 HL15
  go_wp2_with fail
  refine HC'.out.mono ?_
  rintro e w2 ⟨y, rfl, hY⟩
  go_wp2_with fail
  go_ret
  exact ⟨y, rfl, hY⟩

end Go.Proofs.Qxb6615850a
