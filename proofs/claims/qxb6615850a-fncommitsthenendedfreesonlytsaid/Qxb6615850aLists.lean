import Derived.Test.Qxb6615850aTab
import Derived.Test.Qxb6615850aSort
import Derived.Deep.AppendLies
namespace Go.Proofs.Qxb6615850a
open Go.RowKit
set_option linter.unusedVariables false

/-! ### an append whose outcome is known -/
theorem wp_append_run {P : Program} {w w2 : World} {o : Oper} {a : Act} {K : Act → World → Prop} {Q : Exit → Act → World → Prop} (s x : Operand) (t : TypeId)
    (ho : o.op = .call { callee := .builtin .append, args := #[s, x], argTypes := #[t, t] }) (v v' r : Value) (hs : a.eval s = v) (hx : a.eval x = v')
    (hr : (Builtin.append_ #[t, t] o.type #[v, v']).run P w = .ok r w2) (h : K (a.put o.dst r) w2) : o.wp P a w K Q := by
  unfold Oper.wp execOp
  simp only [ho, resolve, invoke, builtin, Sem.run_bind, Sem.run_pure, Result.andThen_ok, List.map_toArray, List.map_cons, List.map_nil, hs, hx, hr]
  exact h

theorem wpList_append_run {P : Program} {w w2 : World} {ops : Array Oper} {rest : List Oper} {o : Oper} {a : Act} {Q : Exit → Act → World → Prop} (hgd : o.guard = Option.none) (s x : Operand) (t : TypeId)
    (ho : o.op = .call { callee := .builtin .append, args := #[s, x], argTypes := #[t, t] }) (v v' r : Value) (hs : a.eval s = v) (hx : a.eval x = v')
    (hr : (Builtin.append_ #[t, t] o.type #[v, v']).run P w = .ok r w2) (h : wpList P ops Q rest (a.put o.dst r) w2) : wpList P ops Q (o :: rest) a w :=
  wpList_plain hgd fun _ hK => wp_append_run s x t ho v v' r hs hx hr (hK _ _ h)

theorem step_append_run {P : Program} {w w2 : World} {ops : Array Oper} {o : Oper} {a : Act} {K : Act → World → Prop} {Q : Exit → Act → World → Prop} {E : Prop} (hgd : o.guard = Option.none) (s x : Operand) (t : TypeId)
    (ho : o.op = .call { callee := .builtin .append, args := #[s, x], argTypes := #[t, t] }) (v v' r : Value) (hs : a.eval s = v) (hx : a.eval x = v')
    (hr : (Builtin.append_ #[t, t] o.type #[v, v']).run P w = .ok r w2) (h : K (a.put o.dst r) w2) : if Region.wanted o (yielded ops a.tmps) = true then Oper.wp P o a w K Q else E := by
  have hw : Region.wanted o (yielded ops a.tmps) = true := by simp [Region.wanted, hgd]
  rw [if_pos hw]
  exact wp_append_run s x t ho v v' r hs hx hr h

/-- Two slices of int slices, of n rows each: row u of the one with c is the call's own and holds f c u. -/
structure HL (w : World) (B n : Nat) (P : Bool → Nat) (f : Bool → Nat → List Int) (v : Bool → Nat → Value) : Prop where
  ne : P true ≠ P false
  lo : ∀ c, B ≤ P c ∧ P c < w.heap.size
  cell : ∀ c u, u < n → w.cell? (ad (P c) u) = some (v c u)
  froz : ∀ c u, u < n → w.frozen? (ad (P c) u) = false
  row : ∀ c u, u < n → w.ownsRow B 3 1 (v c u) (f c u).length ((f c u).map (Value.int .i64))
  off : ∀ c u, u < n → ∀ c', (v c u).ownBlock ≠ some (P c')
  dis : ∀ c u c' u', u < n → u' < n → (c ≠ c' ∨ u ≠ u') → (v c u).ownBlock = Option.none ∨ (v c u).ownBlock ≠ (v c' u').ownBlock

def upd {α : Type} (f : Bool → Nat → α) (c : Bool) (u : Nat) (a : α) : Bool → Nat → α := fun c' u' => if c' = c ∧ u' = u then a else f c' u'
theorem upd_same {α : Type} (f : Bool → Nat → α) (c : Bool) (u : Nat) (a : α) : upd f c u a c u = a := by simp [upd]
theorem upd_other {α : Type} (f : Bool → Nat → α) (c c' : Bool) (u u' : Nat) (a : α) (h : c' ≠ c ∨ u' ≠ u) : upd f c u a c' u' = f c' u' := by
  unfold upd
  rw [if_neg]
  rintro ⟨rfl, rfl⟩
  rcases h with h | h <;> exact h rfl

theorem HL.kept {w w' : World} {B n : Nat} {P : Bool → Nat} {f : Bool → Nat → List Int} {v : Bool → Nat → Value} (h : HL w B n P f v) (hg : w.grownBy w' Option.none) : HL w' B n P f v where
  ne := h.ne
  lo := fun c => ⟨(h.lo c).1, Nat.lt_of_lt_of_le (h.lo c).2 hg.size⟩
  cell := fun c u hu => (hg.cell_far (ad (P c) u) (h.lo c).2 (by simp)).trans (h.cell c u hu)
  froz := fun c u hu => (hg.frozen_far (ad (P c) u) (h.lo c).2 (by simp)).trans (h.froz c u hu)
  row := fun c u hu => (h.row c u hu).kept hg (by cases hb : (v c u).ownBlock <;> simp)
  off := h.off
  dis := h.dis

theorem HL.push {w W1 : World} {B n : Nat} {P : Bool → Nat} {f : Bool → Nat → List Int} {v : Bool → Nat → Value} (h : HL w B n P f v) (c : Bool) (u : Nat) (hu : u < n) (x : Int) (b1 : Nat) (hg1 : w.grownBy W1 Option.none)
    (hblk : W1.heap[b1]? = some (.cells #[.int .i64 x] 3 (0, 0))) (hlen : (f c u).length ≤ 1000000) (hB : B ≤ w.heap.size) (ty : TypeId) :
    ∃ g cap w2, (Builtin.append_ #[22, 22] ty #[v c u, .slice (some (ad b1 0)) 1 1]).run Try.prog W1 = .ok (.slice (some (ad g 0)) ((f c u).length + 1) cap) w2 ∧
      w2.cell? (ad (P c) u) = some (v c u) ∧ w2.frozen? (ad (P c) u) = false ∧
      HL (w2.setCell (ad (P c) u) (.slice (some (ad g 0)) ((f c u).length + 1) cap)) B n P (upd f c u (f c u ++ [x])) (upd v c u (.slice (some (ad g 0)) ((f c u).length + 1) cap)) ∧
      Below B w (w2.setCell (ad (P c) u) (.slice (some (ad g 0)) ((f c u).length + 1) cap)) ∧ w2.heap.size ≥ w.heap.size ∧ Below B w w2 := by
  have h1 := h.kept hg1
  obtain ⟨i, i1, i2, i3, i4⟩ := info_parts I3
  have hr := h1.row c u hu
  obtain ⟨g, cap, w2, hrun, hown, hgr, hat, hgl⟩ := run_append_lies (P := Try.prog) W1 22 ty B 3 i _ 1 8 Try.underlying22 i1 i2 i3 i4 rfl (by omega) (v c u) _ _ hr (ad b1 0) 1 1 [.int .i64 x] rfl
    (World.news_of_block (cs := #[.int .i64 x]) hblk) (by intro q hq; simp at hq; subst hq; rfl) (by omega) (by unfold maxLen; omega) (by omega) (Nat.le_trans hB hg1.size) _ rfl
  have hlo : ∀ c', P c' < W1.heap.size := fun c' => (h1.lo c').2
  have hgP : ∀ c', g ≠ P c' := fun c' => by
    rcases hat with hat | rfl
    · intro e; exact h.off c u hu c' (by rw [hat, e])
    · have := hlo c'; omega
  have cP : ∀ c' u', u' < n → w2.cell? (ad (P c') u') = some (v c' u') := fun c' u' hu' => (hgr.cell_far (ad (P c') u') (hlo c') (fun e => h.off c u hu c' e.symm)).trans (h1.cell c' u' hu')
  have fP : ∀ c' u', u' < n → w2.frozen? (ad (P c') u') = false := fun c' u' hu' => (hgr.frozen_far (ad (P c') u') (hlo c') (fun e => h.off c u hu c' e.symm)).trans (h1.froz c' u' hu')
  have hBW : B ≤ W1.heap.size := Nat.le_trans hB hg1.size
  have hb2 : Below B w w2 := ((Below.refl B w).grown hg1 hB (by simp)).grown hgr hBW (fun q hq => (h1.row c u hu).lt q hq |>.1)
  have hoth : ∀ c' u', u' < n → (c ≠ c' ∨ u ≠ u') → (v c' u').ownBlock = Option.none ∨ (v c' u').ownBlock ≠ some g := fun c' u' hu' hne => by
    rcases hat with hat | rfl
    · have := h.dis c' u' c u hu' hu (by rcases hne with h | h; exact .inl h.symm; exact .inr (Ne.symm h))
      rw [hat] at this; exact this
    · right
      intro e
      have := ((h1.row c' u' hu').lt _ e).2
      omega
  refine ⟨g, cap, w2, hrun, cP c u hu, fP c u hu, ?_, hb2.setCell (h.lo c).1 _, hb2.size, hb2⟩
  refine ⟨h.ne, fun c' => ⟨(h.lo c').1, ?_⟩, fun c' u' hu' => ?_, fun c' u' hu' => ?_, fun c' u' hu' => ?_, fun c' u' hu' c'' => ?_, fun c1 u1 c2 u2 hu1 hu2 hne => ?_⟩
  · simp; exact Nat.lt_of_lt_of_le (h.lo c').2 hb2.size
  · by_cases e : c' = c ∧ u' = u
    · obtain ⟨rfl, rfl⟩ := e
      rw [World.cell?_setCell_same _ _ _ (cP c' u' hu'), upd_same]
    · rw [upd_other _ _ _ _ _ _ (by by_cases e1 : c' = c; exact .inr (fun e2 => e ⟨e1, e2⟩); exact .inl e1)]
      rw [World.cell?_setCell_other _ _ _ _ ?_]
      · exact cP c' u' hu'
      · simp
        intro e1 e2
        have hcc : c' = c := by
          have := h.ne
          cases c' <;> cases c <;> simp_all
        exact e ⟨hcc, e2.symm⟩
  · rw [World.frozen?_setCell]; exact fP c' u' hu'
  · have hrowset : ∀ (vv : Value) (m : Nat) (xs : List Value), w2.ownsRow B 3 1 vv m xs → (∀ q, vv.ownBlock = some q → q ≠ P c) → (w2.setCell (ad (P c) u) (.slice (some (ad g 0)) ((f c u).length + 1) cap)).ownsRow B 3 1 vv m xs := fun vv m xs ho hq =>
      ho.kept (grownBy_setCell_ad w2 (P c) u _) (by
        cases hb : vv.ownBlock with
        | none => exact .inl rfl
        | some q => exact .inr (by simp; exact hq q hb))
    by_cases e : c' = c ∧ u' = u
    · obtain ⟨rfl, rfl⟩ := e
      rw [upd_same, upd_same]
      refine hrowset _ _ _ ?_ ?_
      · simpa using hown
      · intro q hq; simp [Value.ownBlock] at hq; rw [← hq]; exact hgP c'
    · have hne : c' ≠ c ∨ u' ≠ u := by by_cases e1 : c' = c; exact .inr (fun e2 => e ⟨e1, e2⟩); exact .inl e1
      rw [upd_other _ _ _ _ _ _ hne, upd_other _ _ _ _ _ _ hne]
      refine hrowset _ _ _ ((h1.row c' u' hu').kept hgr (h.dis c' u' c u hu' hu hne)) (fun q hq e => h.off c' u' hu' c (by rw [hq, e]))
  · by_cases e : c' = c ∧ u' = u
    · obtain ⟨rfl, rfl⟩ := e
      rw [upd_same]; simp [Value.ownBlock]; exact hgP c''
    · have hne : c' ≠ c ∨ u' ≠ u := by by_cases e1 : c' = c; exact .inr (fun e2 => e ⟨e1, e2⟩); exact .inl e1
      rw [upd_other _ _ _ _ _ _ hne]; exact h.off c' u' hu' c''
  · by_cases e : c1 = c ∧ u1 = u
    · obtain ⟨rfl, rfl⟩ := e
      have hne2 : c2 ≠ c1 ∨ u2 ≠ u1 := by rcases hne with h | h; exact .inl h.symm; exact .inr (Ne.symm h)
      rw [upd_same, upd_other _ _ _ _ _ _ hne2]
      right
      rcases hoth c2 u2 hu2 hne with h | h
      · rw [h]; simp [Value.ownBlock]
      · intro e; exact h (by rw [← e]; rfl)
    · have hne1 : c1 ≠ c ∨ u1 ≠ u := by by_cases e1 : c1 = c; exact .inr (fun e2 => e ⟨e1, e2⟩); exact .inl e1
      rw [upd_other v c c1 u u1 _ hne1]
      by_cases e' : c2 = c ∧ u2 = u
      · obtain ⟨rfl, rfl⟩ := e'
        rw [upd_same]
        rcases hoth c1 u1 hu1 (by rcases hne1 with h | h; exact .inl h.symm; exact .inr (Ne.symm h)) with h | h
        · exact .inl h
        · exact .inr (by intro e; exact h (by rw [e]; rfl))
      · have hne2 : c2 ≠ c ∨ u2 ≠ u := by by_cases e1 : c2 = c; exact .inr (fun e2 => e' ⟨e1, e2⟩); exact .inl e1
        rw [upd_other v c c2 u u2 _ hne2]
        exact h.dis c1 u1 c2 u2 hu1 hu2 hne

end Go.Proofs.Qxb6615850a
