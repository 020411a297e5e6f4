import Derived.Test.Qxb6616096aDoorLaid
import Derived.Test.Qxb6616096aDoorPrem
import Derived.Deep.Grids
namespace Go.Proofs.Qxb6616096aDoor
open Go.ChangeShapes Go.WideShapes Go.ChangeAt Go.RowKit
set_option linter.unusedVariables false
set_option maxRecDepth 100000

theorem add_none (b o i : Nat) : (⟨b, o, Option.none⟩ : Addr).add i = ⟨b, o + i, Option.none⟩ := by
  unfold Addr.add
  split <;> simp_all

section
variable {H : Type} {enc : TypeId × Value → H} {W : World} {base : Nat}

theorem trod_float_ {k : FloatKind} {t : TypeId} {fuel : Nat} {cs : List Value} {x : DataW H × List MemPlace} (ht : Tryd.prog.underlying t = some (.float k)) (h : DataW.trod enc Tryd.prog W 0 (fun _ => true) true fuel t cs = some x) : ∃ n, cs = [.float k n] ∧ (Lit.float k n).wf = true := by
  cases fuel with
  | zero => simp [DataW.trod] at h
  | succ n =>
    unfold DataW.trod at h
    rw [ht] at h
    split at h <;> simp_all

/-- A slice of one-cell elements that came in. -/
theorem open_sl {t e : TypeId} (ht : Tryd.prog.underlying t = some (.slice e)) (hc : Tryd.prog.cellsOf e = 1) {v : Value} {d : DataW H} {ps : List MemPlace} (hv : Value.okWide Tryd.prog W .any base t v) (h : DataW.Trod enc Tryd.prog W 0 (fun _ => true) true t v d ps)
    {α : Type} [Inhabited α] (f : α → Value) (Q : α → Prop) (hd : Q default) (hQ : ∀ n v x, DataW.trod enc Tryd.prog W 0 (fun _ => true) true n e [v] = some x → ∃ a, v = f a ∧ Q a) :
    ∃ (a : Option Addr) (l c : Nat) (g : Nat → α), v = .slice a l c ∧ IsSl W a l (fun j => f (g j)) ∧ ∀ j, Q (g j) := by
  obtain ⟨a4, len4, cap4, rfl⟩ := okWide_slice ht hv
  obtain ⟨fuel, hf⟩ := h
  rcases Deep.open_slice1 ht hc hf with ⟨hcs, _⟩ | ⟨a, len, cap, m, n, V, D, Pl, hcs, hb, hl, hm, hmm, _, hx⟩
  · simp [Value.cells] at hcs
    obtain ⟨rfl, rfl, rfl⟩ := hcs
    exact ⟨Option.none, 0, 0, fun _ => default, rfl, ⟨by omega, fun h => absurd h (by omega)⟩, fun _ => hd⟩
  · simp [Value.cells] at hcs
    obtain ⟨rfl, rfl, rfl⟩ := hcs
    simp only [if_true] at hmm
    subst hmm
    obtain ⟨B, hB⟩ := Deep.choose_lt (α := α) (p := fun i b => V i = f b ∧ Q b) (n := m) (fun i hi => hQ n (V i) _ (hx i hi).2)
    refine ⟨some a, len4, m, fun j => if j < len4 then B j else default, rfl, ⟨by unfold maxLen at hm; omega, fun h0 => ?_⟩, fun j => ?_⟩
    · have hcell : ∀ i, i < len4 → W.cell? (a.add i) = some (f (B i)) := fun i hi => by rw [(hx i (by omega)).1, (hB i (by omega)).1]
      have h0' := hcell 0 h0
      have e0 : a.add 0 = a := by unfold Addr.add; simp
      rw [e0] at h0'
      have hs := World.cell?_spot h0'
      obtain ⟨b, o, s⟩ := a
      simp only at hs
      subst hs
      exact ⟨b, o, rfl, fun i hi => by rw [← add_none]; dsimp only; rw [if_pos hi]; exact hcell i hi⟩
    · by_cases hj : j < len4
      · dsimp only; rw [if_pos hj]; exact (hB j (by omega)).2
      · dsimp only; rw [if_neg hj]; exact hd

theorem open_int_sl {t e : TypeId} {k : IntKind} (ht : Tryd.prog.underlying t = some (.slice e)) (he : Tryd.prog.underlying e = some (.int k)) (hc : Tryd.prog.cellsOf e = 1) {v : Value} {d : DataW H} {ps : List MemPlace} (hv : Value.okWide Tryd.prog W .any base t v) (h : DataW.Trod enc Tryd.prog W 0 (fun _ => true) true t v d ps) (h0 : (Lit.int k 0).wf = true) :
    ∃ (a : Option Addr) (l c : Nat) (g : Nat → Int), v = .slice a l c ∧ IsSl W a l (fun j => .int k (g j)) ∧ ∀ j, (Lit.int k (g j)).wf = true :=
  open_sl ht hc hv h (fun z => .int k z) (fun z => (Lit.int k z).wf = true) h0 (fun n v x hx => by
    obtain ⟨z, h1, _, h3⟩ := DataW.trod_int he hx
    exact ⟨z, by simpa using h1, h3⟩)

theorem open_float_sl {t e : TypeId} (ht : Tryd.prog.underlying t = some (.slice e)) (he : Tryd.prog.underlying e = some (.float .f64)) (hc : Tryd.prog.cellsOf e = 1) {v : Value} {d : DataW H} {ps : List MemPlace} (hv : Value.okWide Tryd.prog W .any base t v) (h : DataW.Trod enc Tryd.prog W 0 (fun _ => true) true t v d ps) :
    ∃ (a : Option Addr) (l c : Nat) (g : Nat → Nat), v = .slice a l c ∧ IsSl W a l (fun j => .float .f64 (g j)) ∧ ∀ j, (Lit.float .f64 (g j)).wf = true :=
  open_sl ht hc hv h (fun z => .float .f64 z) (fun z => (Lit.float .f64 z).wf = true) (by decide) (fun n v x hx => by
    obtain ⟨z, h1, h3⟩ := trod_float_ he hx
    exact ⟨z, by simpa using h1, h3⟩)

theorem open_bool_sl {t e : TypeId} (ht : Tryd.prog.underlying t = some (.slice e)) (he : Tryd.prog.underlying e = some .bool) (hc : Tryd.prog.cellsOf e = 1) {v : Value} {d : DataW H} {ps : List MemPlace} (hv : Value.okWide Tryd.prog W .any base t v) (h : DataW.Trod enc Tryd.prog W 0 (fun _ => true) true t v d ps) :
    ∃ (a : Option Addr) (l c : Nat) (g : Nat → Bool), v = .slice a l c ∧ IsSl W a l (fun j => .bool (g j)) ∧ ∀ j : Nat, True :=
  open_sl ht hc hv h (fun z => .bool z) (fun _ => True) trivial (fun n v x hx => by
    obtain ⟨z, h1, _⟩ := DataW.trod_bool he hx
    exact ⟨z, by simpa using h1, trivial⟩)

theorem array7 {cs : Array Value} (h : cs.size = 7) : ∃ c0 c1 c2 c3 c4 c5 c6, cs = #[c0, c1, c2, c3, c4, c5, c6] := by
  obtain ⟨l⟩ := cs
  match l, h with
  | [c0, c1, c2, c3, c4, c5, c6], _ => exact ⟨c0, c1, c2, c3, c4, c5, c6, rfl⟩

theorem cells24 : Tryd.prog.cellsOf 24 = 7 := by kernel_rfl
theorem cells22 : Tryd.prog.cellsOf 22 = 1 := by kernel_rfl
theorem cells3 : Tryd.prog.cellsOf 3 = 1 := by kernel_rfl
theorem cells2 : Tryd.prog.cellsOf 2 = 1 := by kernel_rfl

/-- The limit that came in. -/
theorem open_lim {v : Value} {d : DataW H} {ps : List MemPlace} (hv : Value.okWide Tryd.prog W .any base 24 v) (h : DataW.Trod enc Tryd.prog W 0 (fun _ => true) true 24 v d ps) :
    ∃ (burst : Int) (mn mx it ic dc : Nat) (per : Int), v = .agg #[.int .i64 burst, .float .f64 mn, .float .f64 mx, .float .f64 it, .float .f64 ic, .float .f64 dc, .int .i64 per] ∧
      (Lit.float .f64 mn).wf = true ∧ (Lit.float .f64 mx).wf = true ∧ (Lit.float .f64 it).wf = true ∧ (Lit.int .i64 per).wf = true := by
  obtain ⟨cs, rfl, hsz⟩ := okWide_struct Tryd.underlying24 hv
  obtain ⟨c0, c1, c2, c3, c4, c5, c6, rfl⟩ := array7 (hsz.trans cells24)
  obtain ⟨fuel, hf⟩ := h
  obtain ⟨xs, n, _, _, hlen, hxl, hx⟩ := DataW.trod_struct Tryd.underlying24 hf
  have g : ∀ i, i < 7 → ∃ y, xs[i]? = some y := fun i hi => by
    rw [List.getElem?_eq_getElem (by rw [hxl]; exact hi)]; exact ⟨_, rfl⟩
  obtain ⟨y0, e0⟩ := g 0 (by omega); obtain ⟨y1, e1⟩ := g 1 (by omega); obtain ⟨y2, e2⟩ := g 2 (by omega); obtain ⟨y3, e3⟩ := g 3 (by omega)
  obtain ⟨y4, e4⟩ := g 4 (by omega); obtain ⟨y5, e5⟩ := g 5 (by omega); obtain ⟨y6, e6⟩ := g 6 (by omega)
  have h0 := hx 0 _ rfl; have h1 := hx 1 _ rfl; have h2 := hx 2 _ rfl; have h3 := hx 3 _ rfl; have h4 := hx 4 _ rfl; have h5 := hx 5 _ rfl; have h6 := hx 6 _ rfl
  rw [e0] at h0; rw [e1] at h1; rw [e2] at h2; rw [e3] at h3; rw [e4] at h4; rw [e5] at h5; rw [e6] at h6
  simp only [Value.cells] at h0 h1 h2 h3 h4 h5 h6
  obtain ⟨a0, k0, _, _⟩ := DataW.trod_int Tryd.underlying3 h0
  obtain ⟨a1, k1, w1⟩ := trod_float_ Tryd.underlying22 h1
  obtain ⟨a2, k2, w2⟩ := trod_float_ Tryd.underlying22 h2
  obtain ⟨a3, k3, w3⟩ := trod_float_ Tryd.underlying22 h3
  obtain ⟨a4, k4, w4⟩ := trod_float_ Tryd.underlying22 h4
  obtain ⟨a5, k5, w5⟩ := trod_float_ Tryd.underlying22 h5
  obtain ⟨a6, k6, _, w6⟩ := DataW.trod_int Tryd.underlying2 h6
  have t0 : c0 = .int .i64 a0 := by simpa [cells3] using k0
  have t1 : c1 = .float .f64 a1 := by simpa [cells22] using k1
  have t2 : c2 = .float .f64 a2 := by simpa [cells22] using k2
  have t3 : c3 = .float .f64 a3 := by simpa [cells22] using k3
  have t4 : c4 = .float .f64 a4 := by simpa [cells22] using k4
  have t5 : c5 = .float .f64 a5 := by simpa [cells22] using k5
  have t6 : c6 = .int .i64 a6 := by simpa [cells2] using k6
  subst t0 t1 t2 t3 t4 t5 t6
  exact ⟨a0, a1, a2, a3, a4, a5, a6, rfl, w1, w2, w3, w6⟩
end

end Go.Proofs.Qxb6616096aDoor
