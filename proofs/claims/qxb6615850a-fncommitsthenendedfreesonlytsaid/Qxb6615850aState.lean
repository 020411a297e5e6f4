import Derived.Test.Qxb6615850aMaps
namespace Go.Proofs.Qxb6615850a
open Go.RowKit
set_option linter.unusedVariables false

/-- Where a locking and what it leads to lie. -/
structure Lay where
  M : Nat
  S : Nat
  LB : Nat
  IB : Nat
  NB : Nat
  ZB : Nat
  JB : Nat
  RB : Nat
  hb : Nat → Nat
  rb : Nat → Nat

abbrev ad (b o : Nat) : Addr := ⟨b, o, Option.none⟩

/-- The blocks that Fixed speaks of. -/
def Lay.fix (y : Lay) : List Nat := [y.M, y.S, y.LB, y.IB, y.NB, y.ZB, y.RB]

/-- What no release of a lock turns. -/
structure Fixed (w : World) (y : Lay) (n k : Nat) : Prop where
  mS : w.cell? (ad y.M 0) = some (.pointer (some (ad y.S 0)))
  mL : w.cell? (ad y.M 3) = some (.slice (some (ad y.LB 0)) n n)
  mI : w.cell? (ad y.M 4) = some (.slice (some (ad y.IB 0)) k k)
  sN : w.cell? (ad y.S 2) = some (.slice (some (ad y.NB 0)) n n)
  sZ : w.cell? (ad y.S 3) = some (.slice (some (ad y.ZB 0)) k k)
  sJ : w.cell? (ad y.S 10) = some (.slice (some (ad y.JB 0)) k k)
  sR : w.cell? (ad y.S 11) = some (.slice (some (ad y.RB 0)) k k)
  sY : w.cell? (ad y.S 14) = some (.func (.func 22) #[] #[])
  sP : w.cell? (ad y.S 15) = some (.bool false)
  hold : ∀ u, u < n → w.cell? (ad y.LB (u * 5 + 3)) = some (.map (some (y.hb u)))
  name : ∀ u, u < n → ∃ z : Int, w.cell? (ad y.NB u) = some (.int .i64 z)
  item : ∀ x, x < k → ∃ s : ByteArray, w.cell? (ad y.ZB x) = some (.string s)
  rank : ∀ x, x < k → w.cell? (ad y.RB x) = some (.int .i64 x)
  read : ∀ x, x < k → w.cell? (ad y.IB (x * 6 + 1)) = some (.map (some (y.rb x)))
  ws : ∀ x, x < k → w.cell? (ad y.IB (x * 6 + 2)) = some (.slice Option.none 0 0)
  wx : ∀ x, x < k → w.cell? (ad y.IB (x * 6 + 3)) = some (.slice Option.none 0 0)
  wu : ∀ x, x < k → w.cell? (ad y.IB (x * 6 + 4)) = some (.slice Option.none 0 0)
  ch : ∀ x, x < k → w.cell? (ad y.IB (x * 6 + 5)) = some (.bool false)
  fz : ∀ x, x < k → w.frozen? (ad y.IB (x * 6)) = false
  lt : ∀ b ∈ y.fix, b < w.heap.size

theorem Fixed.kept {w w' : World} {y : Lay} {n k : Nat} (F : Fixed w y n k) (hs : w.heap.size ≤ w'.heap.size) (h : ∀ b ∈ y.fix, w'.heap[b]? = w.heap[b]?) : Fixed w' y n k := by
  have c : ∀ b o, b ∈ y.fix → w'.cell? (ad b o) = w.cell? (ad b o) := fun b o hb => World.cell?_of_block (a := ad b o) (h b hb)
  have f : ∀ b o, b ∈ y.fix → w'.frozen? (ad b o) = w.frozen? (ad b o) := fun b o hb => World.frozen?_of_block (a := ad b o) (h b hb)
  have m1 : y.M ∈ y.fix := by simp [Lay.fix]
  have m2 : y.S ∈ y.fix := by simp [Lay.fix]
  have m3 : y.LB ∈ y.fix := by simp [Lay.fix]
  have m4 : y.IB ∈ y.fix := by simp [Lay.fix]
  have m5 : y.NB ∈ y.fix := by simp [Lay.fix]
  have m6 : y.ZB ∈ y.fix := by simp [Lay.fix]
  have m7 : y.RB ∈ y.fix := by simp [Lay.fix]
  exact {
    mS := by rw [c _ _ m1]; exact F.mS
    mL := by rw [c _ _ m1]; exact F.mL
    mI := by rw [c _ _ m1]; exact F.mI
    sN := by rw [c _ _ m2]; exact F.sN
    sZ := by rw [c _ _ m2]; exact F.sZ
    sJ := by rw [c _ _ m2]; exact F.sJ
    sR := by rw [c _ _ m2]; exact F.sR
    sY := by rw [c _ _ m2]; exact F.sY
    sP := by rw [c _ _ m2]; exact F.sP
    hold := fun u hu => by rw [c _ _ m3]; exact F.hold u hu
    name := fun u hu => by obtain ⟨z, hz⟩ := F.name u hu; exact ⟨z, by rw [c _ _ m5]; exact hz⟩
    item := fun u hu => by obtain ⟨z, hz⟩ := F.item u hu; exact ⟨z, by rw [c _ _ m6]; exact hz⟩
    rank := fun u hu => by rw [c _ _ m7]; exact F.rank u hu
    read := fun u hu => by rw [c _ _ m4]; exact F.read u hu
    ws := fun u hu => by rw [c _ _ m4]; exact F.ws u hu
    wx := fun u hu => by rw [c _ _ m4]; exact F.wx u hu
    wu := fun u hu => by rw [c _ _ m4]; exact F.wu u hu
    ch := fun u hu => by rw [c _ _ m4]; exact F.ch u hu
    fz := fun u hu => by rw [f _ _ m4]; exact F.fz u hu
    lt := fun b hb => Nat.lt_of_lt_of_le (F.lt b hb) hs }

set_option maxHeartbeats 400000 in
theorem writer_any (y : Lay) (n k x : Nat) (z : Int) (w : World) (F : Fixed w y n k) (hx : x < k) (hk : k ≤ 65536) (hz : w.cell? (ad y.IB (x * 6)) = some (.int .i64 z)) :
    Calls Try.prog 18 #[.pointer (some (ad y.M 0)), .int .i64 x] w fun e w' => e = .returned (.int .i64 z) ∧ w = w' := by
  have h1 := F.mI
  clear F
  go_enter Try.func18, Try.ntmps18
  go_wp2
  go_ret
  exact ⟨rfl, rfl⟩

set_option maxHeartbeats 400000 in
theorem held_any (y : Lay) (n k u : Nat) (w : World) (F : Fixed w y n k) (hu : u < n) (hn : n ≤ 65536) :
    Calls Try.prog 19 #[.pointer (some (ad y.M 0)), .int .i64 u] w fun e w' => e = .returned (.map (some (y.hb u))) ∧ w = w' := by
  have h1 := F.mL
  have h2 := F.hold u hu
  clear F
  go_enter Try.func19, Try.ntmps19
  go_wp2
  go_ret
  exact ⟨rfl, rfl⟩

set_option maxHeartbeats 400000 in
theorem readers_any (y : Lay) (n k x : Nat) (w : World) (F : Fixed w y n k) (hx : x < k) (hk : k ≤ 65536) :
    Calls Try.prog 20 #[.pointer (some (ad y.M 0)), .int .i64 x] w fun e w' => e = .returned (.map (some (y.rb x))) ∧ w = w' := by
  have h1 := F.mI
  have h2 := F.read x hx
  clear F
  go_enter Try.func20, Try.ntmps20
  go_wp2
  go_ret
  exact ⟨rfl, rfl⟩

end Go.Proofs.Qxb6615850a
