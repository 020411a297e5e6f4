import Derived.Test.Qxb6616210aRarH
import Derived.Deep.RegionHeld3
namespace Go.Proofs.Qxb6616210a
open Go Go.RowKit
set_option linter.unusedVariables false

/-! A law of drawn regions after the kit's 'wpAnyH': a second condition 'T' is what operation 'k' (a load) reads by; it need not hold behind operations that wait for k themselves (they cannot come before it). -/

def waitsOn (md : Region.Mode) (ops : Array Oper) (j k : Nat) : Bool :=
  match ops[j]? with
  | some o => o.after.any (fun e => Region.binds md e && e.on == k)
  | .none => false

section
variable {P : Program} {ops : Array Oper} {Q : Exit → Act → World → Prop} {md : Region.Mode} {S T : World → Prop} {k : Nat}

def wpAnyK (P : Program) (md : Region.Mode) (ops : Array Oper) (Q : Exit → Act → World → Prop) (S T : World → Prop) (k : Nat) : Nat → Array Bool → Act → World → Prop
  | 0, listed, a, w => Region.ready md ops listed = [] ∧ Q .normal a w
  | fuel + 1, listed, a, w =>
    (Region.ready md ops listed = [] → Q .normal a w) ∧
    ∀ i ∈ Region.ready md ops listed, wpOp P ops Q i (fun a' w' => (S w' ∧ (waitsOn md ops i k = false → T w → T w')) ∧ wpAnyK P md ops Q S T k fuel (listed.setIfInBounds i true) a' w') a w

theorem wpAny_of_K : ∀ (fuel : Nat) (listed : Array Bool) (a : Act) (w : World), wpAnyK P md ops Q S T k fuel listed a w → wpAny P md ops Q fuel listed a w
  | 0, _, _, _, h => h
  | fuel + 1, _, _, _, h => ⟨h.1, fun i hi => wpOp_mono (fun a' w' h' => wpAny_of_K fuel _ a' w' h'.2) (h.2 i hi)⟩

theorem wpAnyK_first {i : Nat} {oi : Oper} {v : Value} (hi : ops[i]? = some oi) (hsel : ∀ (j : Nat) (o : Oper) cs b, ops[j]? = some o → o.op ≠ .select cs b)
    (hQ : ∀ c a w, Q (.panic c) (a.put oi.dst v) w → Q (.panic c) a w) :
    ∀ (fuel : Nat) (listed : Array Bool) (a : Act) (w : World),
      (∀ j oj, ops[j]? = some oj → j ≠ i → listed.getD j true = false → (∀ e ∈ oj.after, Region.binds md e = true → e.on ≠ i) → oi.apart ops oj = true) →
      i ∈ Region.ready md ops listed → YieldsIf P ops (fun w => S w ∧ (i = k → T w)) oi v a → S w → (listed.getD k true = false → T w) →
      wpAnyK P md ops Q S T k fuel (listed.setIfInBounds i true) (a.put oi.dst v) w → wpAnyK P md ops Q S T k (fuel + 1) listed a w := by
  intro fuel
  induction fuel with
  | zero =>
    intro listed a w _ hr hy hS hT H
    refine ⟨fun h => (by rw [h] at hr; cases hr), fun j hj => ?_⟩
    by_cases hji : j = i
    · subst hji
      refine hy.wpOp hi ⟨hS, fun e => ?_⟩ ⟨⟨hS, fun _ h => h⟩, H⟩
      subst e; exact hT (mem_ready.1 hr).1
    · have := ready_mono hj hji
      rw [H.1] at this
      cases this
  | succ fuel ih =>
    intro listed a w hfree hr hy hS hT H
    refine ⟨fun h => (by rw [h] at hr; cases hr), fun j hj => ?_⟩
    by_cases hji : j = i
    · subst hji
      refine hy.wpOp hi ⟨hS, fun e => ?_⟩ ⟨⟨hS, fun _ h => h⟩, H⟩
      subst e; exact hT (mem_ready.1 hr).1
    · have h1 := H.2 j (ready_mono hj hji)
      obtain ⟨hjun, oj, hoj, hall⟩ := mem_ready.1 hj
      have hnotk : ∀ x, listed.getD x true = false → ∀ e ∈ oj.after, Region.binds md e = true → e.on ≠ x := fun x h0 e he hb heq => by
        have h1 := hall e he hb
        rw [heq] at h1
        rcases Nat.lt_or_ge x listed.size with h' | h'
        · simp [h'] at h0 h1; rw [h0] at h1; cases h1
        · simp [Array.getElem?_eq_none h'] at h1
      have hnot := hnotk i (mem_ready.1 hr).1
      have h2 := wpOp_putIf hoj (hfree j oj hoj hji hjun hnot) (fun cs b => hsel i oi cs b hi) (fun cs b => hsel j oj cs b hoj) hQ hy h1
      have hfree' : ∀ k ok, ops[k]? = some ok → k ≠ i → (listed.setIfInBounds j true).getD k true = false →
          (∀ e ∈ ok.after, Region.binds md e = true → e.on ≠ i) → oi.apart ops ok = true := fun k ok hk hki hun hno => by
        refine hfree k ok hk hki ?_ hno
        by_cases hjk : j = k
        · subst hjk; exact hjun
        · rw [getD_set_ne true hjk] at hun; exact hun
      have hTj : ∀ w', (waitsOn md ops j k = false → T w → T w') → (listed.setIfInBounds j true).getD k true = false → T w' := fun w' hw hun => by
        have hkun : listed.getD k true = false := by
          by_cases hjk : j = k
          · subst hjk; exact hjun
          · rw [getD_set_ne true hjk] at hun; exact hun
        refine hw ?_ (hT hkun)
        unfold waitsOn
        rw [hoj]
        simp only [Array.any_eq_false]
        intro x hx
        have := hnotk k hkun oj.after[x] (Array.getElem_mem hx)
        cases hb : Region.binds md oj.after[x]
        · simp
        · simp [this hb]
      refine wpOp_mono (fun a' w' h3 => ⟨h3.2.1, ih (listed.setIfInBounds j true) a' w' hfree' (ready_mono hr (Ne.symm hji)) h3.1 h3.2.1.1 (hTj w' h3.2.1.2) ?_⟩) h2
      rw [Array.setIfInBounds_comm _ _ hji]
      exact h3.2.2

theorem wpAnyK_take {i : Nat} {oi : Oper} {v : Value} {fuel : Nat} {listed : Array Bool} {a : Act} {w : World} (hi : ops[i]? = some oi)
    (hs : Region.noSelect ops = true) (hf : Region.free md ops listed i = true) (hr : (Region.ready md ops listed).contains i = true)
    (hQ : ∀ c a w, Q (.panic c) (a.put oi.dst v) w → Q (.panic c) a w) (hy : YieldsIf P ops S oi v a) (hS : S w) (hT : listed.getD k true = false → T w)
    (h : wpAnyK P md ops Q S T k fuel (listed.setIfInBounds i true) (a.put oi.dst v) w) : wpAnyK P md ops Q S T k (fuel + 1) listed a w :=
  wpAnyK_first hi (Region.noSelect_spec hs) hQ fuel listed a w (Region.free_spec hi hf) (by simpa using hr) (hy.imp (fun ⟨a, b⟩ => ⟨a, fun w hw => b w hw.1⟩) id) hS hT h

/-- The load k itself. -/
theorem wpAnyK_takeK {oi : Oper} {v : Value} {fuel : Nat} {listed : Array Bool} {a : Act} {w : World} (hi : ops[k]? = some oi)
    (hs : Region.noSelect ops = true) (hf : Region.free md ops listed k = true) (hr : (Region.ready md ops listed).contains k = true)
    (hQ : ∀ c a w, Q (.panic c) (a.put oi.dst v) w → Q (.panic c) a w) (hy : YieldsIf P ops (fun w => S w ∧ T w) oi v a) (hS : S w) (hT : T w)
    (h : wpAnyK P md ops Q S T k fuel (listed.setIfInBounds k true) (a.put oi.dst v) w) : wpAnyK P md ops Q S T k (fuel + 1) listed a w :=
  wpAnyK_first hi (Region.noSelect_spec hs) hQ fuel listed a w (Region.free_spec hi hf) (by simpa using hr) (hy.imp (fun ⟨a, b⟩ => ⟨a, fun w hw => b w ⟨hw.1, hw.2 rfl⟩⟩) id) hS (fun _ => hT) h

/-- One alone may come up. -/
theorem wpAnyK_one {i : Nat} {o : Oper} {fuel : Nat} {listed : Array Bool} {a : Act} {w : World} (hr : Region.ready md ops listed = [i]) (ho : ops[i]? = some o)
    (h : ∀ K' : Act → World → Prop, Shut (∀ a' w', S w' → (waitsOn md ops i k = false → T w → T w') → wpAnyK P md ops Q S T k fuel (listed.setIfInBounds i true) a' w' → K' a' w') → if Region.wanted o (yielded ops a.tmps) = true then Oper.wp P o a w K' Q else K' (a.put o.dst undef) w) :
    wpAnyK P md ops Q S T k (fuel + 1) listed a w := by
  refine ⟨fun h0 => (by rw [hr] at h0; cases h0), fun j hj => ?_⟩
  rw [hr] at hj
  obtain rfl : j = i := by simpa using hj
  exact wpOp_step ho (fun K' hK => h K' (fun a w h1 h2 h3 => hK a w ⟨⟨h1, h2⟩, h3⟩))

theorem wpAnyK_done {listed : Array Bool} {a : Act} {w : World} (hr : Region.ready md ops listed = []) (h : Q .normal a w) :
    ∀ fuel, wpAnyK P md ops Q S T k fuel listed a w
  | 0 => ⟨hr, h⟩
  | _ + 1 => ⟨fun _ => h, by rw [hr]; simp⟩

theorem wp_region_K (S T : World → Prop) (k : Nat) {id : Nat} {a : Act} {w : World} (hm : P.follows .mixedOrders = true) (hS : S w.drew) (hT : T w.drew)
    (h : S w.drew → T w.drew → wpAnyK P .any ops Q S T k ops.size (Array.replicate ops.size false) a w.drew) : (Code.region id ops true).wp P Q a w :=
  wp_region_any hm (wpAny_of_K _ _ _ _ (h hS hT))
end
end Go.Proofs.Qxb6616210a
