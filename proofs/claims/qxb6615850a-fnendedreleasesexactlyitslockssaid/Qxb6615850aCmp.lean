import Derived.Test.Qxb6615850aEmit
import Derived.Shelf.AbstractIn
namespace Go.Proofs.Qxb6615850a
open Go.RowKit
set_option linter.unusedVariables false

/-- What the comparison reads: the ranks. -/
def RankEnv (RB k E : Nat) (w : World) : Prop := RB < E ∧ E ≤ w.heap.size ∧ ∀ x, x < k → w.cell? (ad RB x) = some (.int .i64 x)

set_option maxHeartbeats 1000000 in
theorem compare_any (v : Value) (RB k E : Nat) (hk : k ≤ 65536) (w : World) (he : RankEnv RB k E w) (p q : Nat) (hp : p < k) (hq : q < k) (hv : v.cells = #[v]) :
    Calls Try.prog 27 #[.agg #[v, .slice (some (ad RB 0)) k k], .int .i64 p, .int .i64 q] w fun e w' => (∃ r : Int, e = .returned (.int .i64 r)) ∧ w.grownBy w' Option.none := by
  obtain ⟨h1, h2, h3⟩ := he
  have c1 := h3 p hp
  have c2 := h3 q hq
  have hlt : RB < w.heap.size := by omega
  have i1 : (p : Int) < (k : Int) := by omega
  have i2 : (0 : Int) ≤ (p : Int) := by omega
  have i3 : (q : Int) < (k : Int) := by omega
  have i4 : (0 : Int) ≤ (q : Int) := by omega
  clear h3
  go_enter Try.func27, Try.ntmps27
  go_wp2_with fail
  go_quiet (fail)
  go_wp2_with fail
  go_ret
  refine ⟨⟨_, rfl⟩, ?_⟩
  exact grownBy.tr (World.grownBy_alloc w _ _) ⟨rfl, rfl, rfl, Nat.le_refl _, fun _ _ _ => rfl⟩

theorem cmp_ok (v : Value) (g RB k E : Nat) (hk : k ≤ 65536) (hg : g < E) (hne : RB ≠ g) (hv : v.cells = #[v]) : Cmp g E (.agg #[v, .slice (some (ad RB 0)) k k]) (fun z => 0 ≤ z ∧ z < k) (RankEnv RB k E) where
  keep := fun W W' r h hgr hr => by
    obtain ⟨h1, h2, h3⟩ := h
    refine ⟨h1, Nat.le_trans h2 hgr.size, fun x hx => hgr.cell (h3 x hx) ?_⟩
    simp
    omega
  low := fun W h => h.2.1
  old := hg
  call := fun W x y h hx hy => by
    obtain ⟨p, rfl⟩ := Int.eq_ofNat_of_zero_le hx.1
    obtain ⟨q, rfl⟩ := Int.eq_ofNat_of_zero_le hy.1
    exact compare_any v RB k E hk W h p q (by omega) (by omega) hv

/-- slices.Collect(maps.Keys(m)): the keys, in some order, in a slice of the call's own. -/
theorem collect_any (b nn : Nat) (D : Dm) (w : World) (hown : w.ownsMap Try.prog 3 (plainElem Try.prog 39) b nn D) (hsz : Maps.size D ≤ 65536) :
    (Calls Try.prog 25 #[.map (some b)] w fun e w' => e = .returned (.func (.func 31) #[] #[.pointer (some (ad w.heap.size 0))]) ∧ w' = w.alloc (.cells #[.map (some b)] 41)) ∧
    (Calls Try.prog 24 #[.func (.func 31) #[] #[.pointer (some (ad w.heap.size 0))]] (w.alloc (.cells #[.map (some b)] 41)) fun e w' => ∃ (v : Value) (ss : List Int), e = .returned v ∧ ss.Perm (intKeys D) ∧
      w'.ownsRow (w.heap.size + 1) 3 1 v ss.length (ss.map (Value.int .i64)) ∧ (v = .slice Option.none 0 0 ↔ ss = []) ∧ Below (w.heap.size + 1) (w.alloc (.cells #[.map (some b)] 41)) w') := by
  have hbl := hown.lt
  have hm : Maps.size D ≤ maxLen := by unfold maxLen; omega
  have hseq : SeqGives Fence.wide 3 Try.prog 31 #[.pointer (some (ad w.heap.size 0))] encZ (fun ss => ss.Perm (intKeys D)) (Maps.size D) (w.alloc (.cells #[.map (some b)] 41)) :=
    AnyZI.keys_gives (ρ := Try.keysA_ren) { Try.keysA with } Fence.wide _ trivial rfl (by omega) w.heap.size b nn D _ (by simp) (by simp) (by
      obtain ⟨es, clock, hb, Ft, hs, hD⟩ := hown
      exact ⟨es, clock, (Below.heap_alloc _ _ b hbl).trans hb, Ft, hs, hD⟩)
  constructor
  · exact (callsIn_wide (n := 5)).1 (AnyZI.keys_in Try.keysA Fence.wide 5 trivial rfl (some b) w)
  · have cS := AnyZI.collect_in Try.collectA Fence.wide 5 trivial trivial rfl (by omega) 31 #[.pointer (some (ad w.heap.size 0))] trivial (enters_of Try.func31 (by kernel_rfl) rfl) _ _ hm (by omega) _ hseq
    have := (callsIn_wide (n := 5)).1 cS
    have e : (w.alloc (.cells #[.map (some b)] 41)).heap.size = w.heap.size + 1 := by simp
    rw [e] at this
    exact this

end Go.Proofs.Qxb6615850a
