import Derived.Test.Qxb6616210aBits4
import Derived.Maps.OwnSet
namespace Go.Proofs.Qxb6616210a
open Go.RowKit
open Go.ChangeMaps (setBlock heap_setBlock_same heap_setBlock_other)
set_option linter.unusedVariables false
set_option linter.unusedSimpArgs false

abbrev Dm := DataW Unit
abbrev kz (z : Int) : Lit := .int .i64 z
theorem kz_ne {a b : Int} (h : a ≠ b) : kz a ≠ kz b := by simp [kz, h]
theorem K3 : Maps.Keyed Try.prog 3 := Maps.int_keyed Try.underlying3
theorem wf_small (x : Nat) (h : x ≤ 1000000) : (Lit.int .i64 (x : Int)).wf = true := by
  have : (decide (IntKind.i64.min ≤ (x : Int)) && decide ((x : Int) ≤ IntKind.i64.max)) = true := by
    rw [show IntKind.min .i64 = -9223372036854775808 from rfl, show IntKind.max .i64 = 9223372036854775807 from rfl]
    simp; omega
  exact this
theorem key3 (x : Nat) (h : x ≤ 1000000) : keyOf Try.prog 3 (.int .i64 (x : Int)) = some (kz x) := Maps.keyOf_int_mk Try.underlying3 (wf_small x h)

/-- Block M is a map of at most nn banned pieces; of the pieces below n, those with b. -/
def BanM (M nn n : Nat) (b : Nat → Bool) (w : World) : Prop :=
  ∃ D : Dm, w.ownsMap Try.prog 3 (plainElem Try.prog 4) M nn D ∧ ∀ x, x < n → D.atKey (kz (x : Nat)) (.lit (.bool false)) = .lit (.bool (b x))

theorem BanM.lt {M nn n : Nat} {b : Nat → Bool} {w : World} (h : BanM M nn n b w) : M < w.heap.size := by obtain ⟨D, ho, _⟩ := h; exact ho.lt
theorem BanM.kept {M nn n : Nat} {b : Nat → Bool} {w w' : World} (h : BanM M nn n b w) (e : w'.heap[M]? = w.heap[M]?) : BanM M nn n b w' := by
  obtain ⟨D, ⟨es, clock, hb, r⟩, hm⟩ := h
  exact ⟨D, ⟨es, clock, e.trans hb, r⟩, hm⟩
theorem BanM.below {M nn n : Nat} {b : Nat → Bool} {w w' : World} (h : BanM M nn n b w) (hb : Below w.heap.size w w') : BanM M nn n b w' := h.kept (hb.block M h.lt)
theorem BanM.upd {Q : Addr → Prop} {M nn n : Nat} {b : Nat → Bool} {w w' : World} (h : BanM M nn n b w) (hu : Upd Q w w') (hq : ∀ p, Q p → p.block ≠ M) : BanM M nn n b w' := h.kept (hu.blk M h.lt hq)
theorem BanM.other {M nn n : Nat} {b : Nat → Bool} {w : World} (h : BanM M nn n b w) {p : Addr} (hp : p.block ≠ M) (u : Value) : BanM M nn n b (w.setCell p u) := h.kept (Below.heap_setCell w p u M (Ne.symm hp))
theorem BanM.mono {M nn nn' n : Nat} {b : Nat → Bool} {w : World} (h : BanM M nn n b w) (hn : nn ≤ nn') : BanM M nn' n b w := by
  obtain ⟨D, ho, hm⟩ := h; exact ⟨D, ho.mono hn, hm⟩
theorem BanM.congr {M nn n : Nat} {b b' : Nat → Bool} {w : World} (h : BanM M nn n b w) (e : ∀ x, x < n → b' x = b x) : BanM M nn n b' w := by
  obtain ⟨D, ho, hm⟩ := h; exact ⟨D, ho, fun x hx => by rw [e x hx]; exact hm x hx⟩
theorem BanM.made (w : World) (n : Nat) : BanM w.heap.size 0 n (fun _ => false) (w.alloc (.map #[] 0)) :=
  ⟨.map [], World.ownsMap_made w Try.prog 3 _, fun x hx => rfl⟩

theorem plainBool_inv {P : Program} {e : TypeId} (he : P.underlying e = some .bool) {v : Value} {d : Dm} {ps : List MemPlace} {x : Bool} (h : plainElem P e v = some (d, ps)) (hd : d = .lit (.bool x)) : v = .bool x := by
  unfold plainElem at h
  rw [he] at h
  cases v <;> simp at h
  obtain ⟨h1, _⟩ := h
  rw [← h1] at hd
  simp at hd
  rw [hd]

/-- banned[i]. -/
theorem BanM.look {M nn n : Nat} {b : Nat → Bool} {w : World} (h : BanM M nn n b w) (hn : n ≤ 65536) {i : Nat} (hi : i < n) :
    (Instr.lookup 38 (.map (some M)) (.int .i64 (i : Int)) false).run Try.prog w = .ok (.bool (b i)) w := by
  obtain ⟨D, ho, hm⟩ := h
  obtain ⟨v, ps, hrun, hv⟩ := ho.lookup K3 Try.underlying38 (z := .bool false) (by kernel_rfl) (plainElem_bool Try.underlying4 false) (key3 i (by omega))
  rw [hm i hi] at hv
  rw [plainBool_inv Try.underlying4 hv rfl] at hrun
  exact hrun

/-- A world that differs from another in one map alone. -/
def Turned (M : Nat) (w w' : World) : Prop := w.mapTurned w' M
theorem heapTurned {M : Nat} {w w' : World} (h : Turned M w w') : w'.heap.size = w.heap.size ∧ (∀ k, k ≠ M → w'.heap[k]? = w.heap[k]?) ∧ (∀ p, w'.cell? p = w.cell? p) ∧ (∀ p, w'.frozen? p = w.frozen? p) := by
  have hf := h.frozen
  obtain ⟨es, clock, es', clock', hb, rfl⟩ := h
  have hk : ∀ k, k ≠ M → (setBlock w M (.map es' clock')).heap[k]? = w.heap[k]? := fun k hk => heap_setBlock_other hb _ hk
  refine ⟨by simp [setBlock], hk, fun p => ?_, hf⟩
  by_cases e : p.block = M
  · have h1 : (setBlock w M (.map es' clock')).heap[p.block]? = some (.map es' clock') := by rw [e]; exact heap_setBlock_same hb _
    have h2 : w.heap[p.block]? = some (.map es clock) := by rw [e]; exact hb
    unfold World.cell?
    rw [h1, h2]
  · exact World.cell?_of_block (hk p.block e)

/-- banned[i] = true. -/
theorem BanM.store {M nn n : Nat} {b : Nat → Bool} {w : World} (h : BanM M nn n b w) (hn : n ≤ 65536) (hnn : nn < 65536) {i : Nat} (hi : i < n) :
    ∃ w', (Instr.mapUpdate 38 (.map (some M)) (.int .i64 (i : Int)) (.bool true)).run Try.prog w = .ok () w' ∧ BanM M (nn + 1) n (Qxb6616210a.upd b i true) w' ∧ Turned M w w' := by
  obtain ⟨D, ho, hm⟩ := h
  obtain ⟨w', hrun, ho', ht⟩ := ho.store K3 Try.underlying38 (by unfold maxLen; omega) (key3 i (by omega)) (plainElem_bool (H := Unit) Try.underlying4 true)
  refine ⟨w', hrun, ⟨_, ho', fun x hx => ?_⟩, ht⟩
  by_cases e : x = i
  · subst e
    rw [upd_same]
    exact Maps.atKey_put_same ho.isMap (k := kz x) trivial _ _
  · rw [upd_other _ _ _ e, Maps.atKey_put_other (kz_ne (by omega))]
    exact hm x hx

end Go.Proofs.Qxb6616210a
