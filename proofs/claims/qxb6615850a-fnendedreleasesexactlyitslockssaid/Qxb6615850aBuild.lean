import Derived.Test.Qxb6615850aLists2
import Derived.Test.Qxb6615850aRel
namespace Go.Proofs.Qxb6615850a
open Go.RowKit
set_option linter.unusedVariables false

theorem I49 : (Try.prog.info? 49).map (fun i => (i.zero, i.size, i.bytes)) = some (some (.int .i64 0), 1, 8) := by kernel_rfl
theorem I51 : (Try.prog.info? 51).map (fun i => (i.zero, i.size, i.bytes)) = some (some (.agg #[.int .i64 0, .int .i64 0, .int .i64 0, .bool false, .int .i64 0, .int .i64 0, .slice Option.none 0 0, .bool false]), 8, 80) := by kernel_rfl
theorem I55 : (Try.prog.info? 55).map (fun i => (i.zero, i.size, i.bytes)) = some (some (.agg #[.int .i64 0, .slice Option.none 0 0, .slice Option.none 0 0, .map Option.none, .slice Option.none 0 0]), 5, 88) := by kernel_rfl
theorem I60 : (Try.prog.info? 60).map (fun i => (i.zero, i.size, i.bytes)) = some (some (.agg #[.int .i64 0, .map Option.none, .slice Option.none 0 0, .slice Option.none 0 0, .slice Option.none 0 0, .bool false]), 6, 96) := by kernel_rfl
theorem I9 : (Try.prog.info? 9).map (fun i => (i.zero, i.size, i.bytes)) = some (some (.string ⟨#[]⟩), 1, 16) := by kernel_rfl

/-! ### blocks -/
/-- Block b has N cells that may be written. -/
structure Blk (w : World) (b N : Nat) : Prop where
  lt : b < w.heap.size
  cell : ∀ o, o < N → ∃ v, w.cell? (ad b o) = some v
  froz : ∀ o, o < N → w.frozen? (ad b o) = false

theorem Blk.kept {w w' : World} {b N : Nat} {row : Option Nat} (h : Blk w b N) (hg : w.grownBy w' row) (hne : some b ≠ row) : Blk w' b N where
  lt := Nat.lt_of_lt_of_le h.lt hg.size
  cell := fun i hi => by obtain ⟨v, hv⟩ := h.cell i hi; exact ⟨v, (World.cell?_of_block (a := ad b i) (hg.block b h.lt hne)).trans hv⟩
  froz := fun i hi => (World.frozen?_of_block (a := ad b i) (hg.block b h.lt hne)).trans (h.froz i hi)

theorem Blk.set {w : World} {b N : Nat} (h : Blk w b N) (c i : Nat) (v : Value) : Blk (w.setCell (ad c i) v) b N where
  lt := by simpa using h.lt
  cell := fun j hj => by
    obtain ⟨v', hv'⟩ := h.cell j hj
    by_cases e : ad b j = ad c i
    · rw [← e]; exact ⟨v, World.cell?_setCell_same _ _ _ hv'⟩
    · refine ⟨v', ?_⟩
      rw [World.cell?_setCell_other _ _ _ _ (by simp at e ⊢; intro h1 h2; exact e h1.symm h2.symm), hv']
  froz := fun j hj => by rw [World.frozen?_setCell]; exact h.froz j hj

theorem blk_new (w : World) (z : Array Value) (N : Nat) (e : TypeId) : Blk (w.alloc (.cells (zeros z N) e)) w.heap.size N where
  lt := by simp
  cell := fun i hi => by rw [World.cell?_alloc_new, zeros_get _ _ _ hi]; exact ⟨_, rfl⟩
  froz := fun i hi => by rw [World.frozen?_alloc_new]

/-- Block b has n ints that may be written. -/
structure Ints (w : World) (b n : Nat) : Prop where
  lt : b < w.heap.size
  cell : ∀ o, o < n → ∃ z : Int, w.cell? (ad b o) = some (.int .i64 z)
  froz : ∀ o, o < n → w.frozen? (ad b o) = false

theorem Ints.kept {w w' : World} {b N : Nat} {row : Option Nat} (h : Ints w b N) (hg : w.grownBy w' row) (hne : some b ≠ row) : Ints w' b N where
  lt := Nat.lt_of_lt_of_le h.lt hg.size
  cell := fun i hi => by obtain ⟨v, hv⟩ := h.cell i hi; exact ⟨v, (World.cell?_of_block (a := ad b i) (hg.block b h.lt hne)).trans hv⟩
  froz := fun i hi => (World.frozen?_of_block (a := ad b i) (hg.block b h.lt hne)).trans (h.froz i hi)

theorem Ints.set {w : World} {b N : Nat} (h : Ints w b N) (c i : Nat) (z : Int) : Ints (w.setCell (ad c i) (.int .i64 z)) b N where
  lt := by simpa using h.lt
  cell := fun j hj => by
    obtain ⟨v', hv'⟩ := h.cell j hj
    by_cases e : ad b j = ad c i
    · rw [← e]; exact ⟨z, World.cell?_setCell_same _ _ _ hv'⟩
    · refine ⟨v', ?_⟩
      rw [World.cell?_setCell_other _ _ _ _ (by simp at e ⊢; intro h1 h2; exact e h1.symm h2.symm), hv']
  froz := fun j hj => by rw [World.frozen?_setCell]; exact h.froz j hj

theorem ints_new (w : World) (n : Nat) (e : TypeId) : Ints (w.alloc (.cells (zeros #[.int .i64 0] n) e)) w.heap.size n where
  lt := by simp
  cell := fun i hi => by rw [World.cell?_alloc_new, zeros_get _ _ _ hi]; exact ⟨0, by simp [Nat.mod_one]⟩
  froz := fun i hi => by rw [World.frozen?_alloc_new]

/-! ### maps that are being filled -/
def HeldN (w : World) (b k : Nat) (h : Nat → Option Bool) (N : Nat) : Prop := ∃ (D : Dm) (nn : Nat), nn ≤ N ∧ w.ownsMap Try.prog 3 (plainElem Try.prog 39) b nn D ∧ MIs md D k h
def ReadN (w : World) (b n : Nat) (r : Nat → Option Unit) (N : Nat) : Prop := ∃ (D : Dm) (nn : Nat), nn ≤ N ∧ w.ownsMap Try.prog 3 (plainElem Try.prog 4) b nn D ∧ MIs tt D n r

theorem HeldN.held {w : World} {b k N : Nat} {h : Nat → Option Bool} (H : HeldN w b k h N) : HeldM w b k h := by obtain ⟨D, nn, _, h1, h2⟩ := H; exact ⟨D, nn, h1, h2⟩
theorem ReadN.read {w : World} {b k N : Nat} {h : Nat → Option Unit} (H : ReadN w b k h N) : ReadM w b k h := by obtain ⟨D, nn, _, h1, h2⟩ := H; exact ⟨D, nn, h1, h2⟩
theorem HeldN.congr {w : World} {b k N : Nat} {h h' : Nat → Option Bool} (H : HeldN w b k h N) (e : ∀ x, x < k → h x = h' x) : HeldN w b k h' N := by
  obtain ⟨D, nn, hn, ho, hm⟩ := H; exact ⟨D, nn, hn, ho, hm.congr e⟩
theorem ReadN.congr {w : World} {b k N : Nat} {h h' : Nat → Option Unit} (H : ReadN w b k h N) (e : ∀ x, x < k → h x = h' x) : ReadN w b k h' N := by
  obtain ⟨D, nn, hn, ho, hm⟩ := H; exact ⟨D, nn, hn, ho, hm.congr e⟩
theorem held_new (w : World) (k : Nat) : HeldN (w.alloc (.map #[] 0)) w.heap.size k (fun _ => Option.none) 0 := ⟨_, 0, Nat.le_refl _, World.ownsMap_made w _ _ _, MIs.empty _ _⟩
theorem read_new (w : World) (k : Nat) : ReadN (w.alloc (.map #[] 0)) w.heap.size k (fun _ => Option.none) 0 := ⟨_, 0, Nat.le_refl _, World.ownsMap_made w _ _ _, MIs.empty _ _⟩

theorem turned_size {w w' : World} {b : Nat} (h : w.mapTurned w' b) : w'.heap.size = w.heap.size := by
  obtain ⟨_, _, _, _, _, rfl⟩ := h
  show (Array.setIfInBounds _ _ _).size = _
  simp

theorem HeldN.put {w : World} {b k N : Nat} {h : Nat → Option Bool} (H : HeldN w b k h N) (x : Nat) (hx : x < k) (hk : k ≤ 1000000) (m : Bool) (hN : N < 1000000) :
    ∃ w', (Instr.mapUpdate 41 (.map (some b)) (.int .i64 x) (.string (mdb m))).run Try.prog w = .ok () w' ∧ HeldN w' b k (fun z => if z = x then some m else h z) (N + 1) ∧ w.grownBy w' (some b) ∧ w'.heap.size = w.heap.size := by
  obtain ⟨D, nn, hn, ho, hM⟩ := H
  obtain ⟨w', hrun, ho', ht⟩ := ho.store K3 Try.underlying41 (by unfold maxLen; omega) (key3 x (by omega)) (plainElem_string (H := Unit) Try.underlying39 (mdb_size m))
  exact ⟨w', hrun, ⟨_, _, by omega, ho', hM.put (ho.tidy K3) x hx m⟩, ht.grown, turned_size ht⟩

theorem ReadN.put {w : World} {b k N : Nat} {h : Nat → Option Unit} (H : ReadN w b k h N) (x : Nat) (hx : x < k) (hk : k ≤ 1000000) (hN : N < 1000000) :
    ∃ w', (Instr.mapUpdate 43 (.map (some b)) (.int .i64 x) (.bool true)).run Try.prog w = .ok () w' ∧ ReadN w' b k (fun z => if z = x then some () else h z) (N + 1) ∧ w.grownBy w' (some b) ∧ w'.heap.size = w.heap.size := by
  obtain ⟨D, nn, hn, ho, hM⟩ := H
  obtain ⟨w', hrun, ho', ht⟩ := ho.store K3 Try.underlying43 (by unfold maxLen; omega) (key3 x (by omega)) (plainElem_bool (H := Unit) Try.underlying4 true)
  exact ⟨w', hrun, ⟨_, _, by omega, ho', hM.put (ho.tidy K3) x hx ()⟩, ht.grown, turned_size ht⟩

/-- The locks when the first j of the X items have been noted. -/
def hX (X : List Int) (j x : Nat) : Option Bool := if among (X.take j) x then some true else Option.none
/-- .. all of X, and the first j of the S items. -/
def hS (X S : List Int) (j x : Nat) : Option Bool := if among (S.take j) x then some false else if among X x then some true else Option.none
def rS (Z : List Int) (j u : Nat) : Option Unit := if among (Z.take j) u then some () else Option.none

theorem among_next (Z : List Int) (j x z : Nat) (hj : j < Z.length) (hx : Z.getD j 0 = (x : Int)) : among (Z.take (j + 1)) z = if z = x then true else among (Z.take j) z := by
  rw [among_succ Z j z hj, hx]
  by_cases e : z = x
  · subst e; simp
  · have : decide ((x : Int) = (z : Int)) = false := by simp; omega
    rw [this, Bool.or_false, if_neg e]

theorem hX_next (X : List Int) (j x z : Nat) (hj : j < X.length) (hx : X.getD j 0 = (x : Int)) : (if z = x then some true else hX X j z) = hX X (j + 1) z := by
  unfold hX
  rw [among_next X j x z hj hx]
  by_cases e : z = x <;> simp [e]
theorem hS_next (X S : List Int) (j x z : Nat) (hj : j < S.length) (hx : S.getD j 0 = (x : Int)) : (if z = x then some false else hS X S j z) = hS X S (j + 1) z := by
  unfold hS
  rw [among_next S j x z hj hx]
  by_cases e : z = x <;> simp [e]
theorem rS_next (Z : List Int) (j x z : Nat) (hj : j < Z.length) (hx : Z.getD j 0 = (x : Int)) : (if z = x then some () else rS Z j z) = rS Z (j + 1) z := by
  unfold rS
  rw [among_next Z j x z hj hx]
  by_cases e : z = x <;> simp [e]

theorem among_iff (Z : List Int) (x : Nat) : among Z x = true ↔ (x : Int) ∈ Z := by
  unfold among
  rw [List.any_eq_true]
  constructor
  · rintro ⟨z, hz, he⟩
    have := of_decide_eq_true he
    rw [← this]; exact hz
  · intro h; exact ⟨_, h, by simp⟩

theorem hS_all {n k : Nat} {ws : Row} {R : Nat → Row} (hok : ∀ x, x < k → OKat n ws R x) (hl : ∀ x, x < k → (R x).zs.length = (R x).len) (X S : List Int) (u : Nat) (hX : ∀ z, z ∈ X ↔ inX ws k u z) (hS' : ∀ z, z ∈ S ↔ inS R k u [] 0 z) (j : Nat) (hj : S.length ≤ j) (x : Nat) (hx : x < k) :
    hS X S j x = Hd ws R (fun _ => false) u x := by
  unfold hS Hd
  rw [List.take_of_length_le hj]
  have hXx : among X x = true ↔ ws.zs.getD x 0 = (u : Int) := by
    rw [among_iff, hX]
    constructor
    · rintro ⟨q, h1, h2, h3⟩
      obtain rfl : x = q := by omega
      exact h3
    · intro h; exact ⟨x, hx, rfl, h⟩
  have hSx : among S x = true ↔ among (R x).zs u = true := by
    rw [among_iff, hS']
    constructor
    · rintro ⟨q, h1, h2⟩
      obtain rfl : x = q := by omega
      rcases h2 with h2 | h2
      · exact h2.2
      · simp [among] at h2
    · intro h; exact ⟨x, rfl, .inl ⟨hx, h⟩⟩
  simp only [Bool.false_eq_true, if_false]
  by_cases h1 : ws.zs.getD x 0 = (u : Int)
  · have he : (R x).zs = [] := List.eq_nil_of_length_eq_zero (by rw [hl x hx]; exact (hok x hx).2.2.1 (by omega))
    have hs : ¬ among S x = true := by rw [hSx, he]; simp [among]
    rw [if_neg hs, if_pos (hXx.2 h1), if_pos h1]
  · rw [if_neg h1]
    by_cases h2 : among (R x).zs u = true
    · rw [if_pos (hSx.2 h2), if_pos h2]
    · rw [if_neg (fun h => h2 (hSx.1 h)), if_neg (fun h => h1 (hXx.1 h)), if_neg h2]

theorem rS_all (R : Nat → Row) (x : Nat) (Z : List Int) (hZ : (R x).zs = Z) (j u : Nat) (hj : Z.length ≤ j) : rS Z j u = Rdd R (fun _ => false) x u := by
  unfold rS Rdd
  rw [List.take_of_length_le hj, hZ]; simp

/-! ### the transactions' side -/
/-- The first i of the lockers are laid. B is the heap's size at the call. -/
structure C1 (ws : Row) (R : Nat → Row) (n k B i : Nat) (wx : World) : Prop where
  nm : Ints wx B n
  tx : Blk wx (B + 1) (n * 8)
  lk : Blk wx (B + 2) (n * 5)
  hold : ∀ u, u < i → wx.cell? (ad (B + 2) (u * 5 + 3)) = some (.map (some (B + 3 + u)))
  held : ∀ u, u < i → HeldM wx (B + 3 + u) k (Hd ws R (fun _ => false) u)

theorem C1.kept {ws : Row} {R : Nat → Row} {n k B i : Nat} {wx w' : World} {row : Option Nat} (h : C1 ws R n k B i wx) (hg : wx.grownBy w' row) (hr : ∀ r, row = some r → B + 3 + i ≤ r) : C1 ws R n k B i w' := by
  have ne : ∀ b, b < B + 3 + i → some b ≠ row := fun b hb e => by have := hr b e.symm; omega
  refine ⟨h.nm.kept hg (ne _ (by omega)), h.tx.kept hg (ne _ (by omega)), h.lk.kept hg (ne _ (by omega)), fun u hu => ?_, fun u hu => (h.held u hu).kept (hg.block _ (h.held u hu).lt (ne _ (by omega)))⟩
  rw [World.cell?_of_block (a := ad (B + 2) (u * 5 + 3)) (hg.block (B + 2) h.lk.lt (ne _ (by omega)))]; exact h.hold u hu

theorem C1.name {ws : Row} {R : Nat → Row} {n k B i : Nat} {wx : World} (h : C1 ws R n k B i wx) (o : Nat) (z : Int) : C1 ws R n k B i (wx.setCell (ad B o) (.int .i64 z)) := by
  have hg := grownBy_setCell_ad wx B o (.int .i64 z)
  refine ⟨h.nm.set B o z, h.tx.set B o _, h.lk.set B o _, fun u hu => ?_, fun u hu => (h.held u hu).kept (hg.block _ (h.held u hu).lt (by simp; omega))⟩
  rw [World.cell?_of_block (a := ad (B + 2) (u * 5 + 3)) (hg.block (B + 2) h.lk.lt (by simp))]; exact h.hold u hu

theorem C1.txn {ws : Row} {R : Nat → Row} {n k B i : Nat} {wx : World} (h : C1 ws R n k B i wx) (o : Nat) (v : Value) : C1 ws R n k B i (wx.setCell (ad (B + 1) o) v) := by
  have hg := grownBy_setCell_ad wx (B + 1) o v
  refine ⟨h.nm.kept hg (by simp), h.tx.set _ o _, h.lk.set _ o _, fun u hu => ?_, fun u hu => (h.held u hu).kept (hg.block _ (h.held u hu).lt (by simp; omega))⟩
  rw [World.cell?_of_block (a := ad (B + 2) (u * 5 + 3)) (hg.block (B + 2) h.lk.lt (by simp))]; exact h.hold u hu

theorem C1.lock {ws : Row} {R : Nat → Row} {n k B i : Nat} {wx : World} (h : C1 ws R n k B i wx) (o : Nat) (ho : i * 5 ≤ o) (v : Value) : C1 ws R n k B i (wx.setCell (ad (B + 2) o) v) := by
  have hg := grownBy_setCell_ad wx (B + 2) o v
  refine ⟨h.nm.kept hg (by simp), h.tx.set _ o _, h.lk.set _ o _, fun u hu => ?_, fun u hu => (h.held u hu).kept (hg.block _ (h.held u hu).lt (by simp; omega))⟩
  rw [World.cell?_setCell_other _ _ _ _ (by simp; omega)]; exact h.hold u hu

theorem C1.next {ws : Row} {R : Nat → Row} {n k B i : Nat} {wx : World} (h : C1 ws R n k B i wx) (h1 : wx.cell? (ad (B + 2) (i * 5 + 3)) = some (.map (some (B + 3 + i)))) (h2 : HeldM wx (B + 3 + i) k (Hd ws R (fun _ => false) i)) : C1 ws R n k B (i + 1) wx where
  nm := h.nm
  tx := h.tx
  lk := h.lk
  hold := fun u hu => by
    by_cases e : u = i
    · subst e; exact h1
    · exact h.hold u (by omega)
  held := fun u hu => by
    by_cases e : u = i
    · subst e; exact h2
    · exact h.held u (by omega)

/-! ### the items' side -/
/-- The first x of the items are laid. I: their block; J, K, O: the order's two rows and the order. -/
structure C2 (ws : Row) (R : Nat → Row) (n k B I J K O x : Nat) (wx : World) : Prop where
  c1 : C1 ws R n k B n wx
  it : Blk wx I (k * 6)
  it0 : ∀ z, z < x → wx.cell? (ad I (z * 6)) = some (.int .i64 (Wd ws (fun _ => false) z))
  it1 : ∀ z, z < x → wx.cell? (ad I (z * 6 + 1)) = some (.map (some (I + 4 + z)))
  it2 : ∀ z, z < x → wx.cell? (ad I (z * 6 + 2)) = some (.slice Option.none 0 0)
  it3 : ∀ z, z < x → wx.cell? (ad I (z * 6 + 3)) = some (.slice Option.none 0 0)
  it4 : ∀ z, z < x → wx.cell? (ad I (z * 6 + 4)) = some (.slice Option.none 0 0)
  it5 : ∀ z, z < x → wx.cell? (ad I (z * 6 + 5)) = some (.bool false)
  rd : ∀ z, z < x → ReadM wx (I + 4 + z) n (Rdd R (fun _ => false) z)
  jj : Ints wx J k
  kk : Ints wx K k
  kx : ∀ z, z < x → wx.cell? (ad K z) = some (.int .i64 z)
  olt : O < wx.heap.size
  o0 : wx.cell? (ad O 0) = some (.slice (some (ad J 0)) k k)
  o1 : wx.cell? (ad O 1) = some (.slice (some (ad K 0)) k k)

/-- The items' block lies behind the lockers' maps, and the order's three right behind it. -/
structure Where (n B I J K O : Nat) : Prop where
  i : I = B + 3 + n
  j : I < J ∧ J < I + 4
  k : I < K ∧ K < I + 4
  o : I < O ∧ O < I + 4
  jk : J ≠ K
  jo : J ≠ O
  ko : K ≠ O

theorem C2.kept {ws : Row} {R : Nat → Row} {n k B I J K O x : Nat} {wx w' : World} {row : Option Nat} (W : Where n B I J K O) (h : C2 ws R n k B I J K O x wx) (hg : wx.grownBy w' row) (hr : ∀ r, row = some r → I + 4 + x ≤ r) : C2 ws R n k B I J K O x w' := by
  obtain ⟨hi, hj, hk, ho, _, _, _⟩ := W
  have ne : ∀ b, b < I + 4 + x → some b ≠ row := fun b hb e => by have := hr b e.symm; omega
  have c : ∀ b o, b < wx.heap.size → b < I + 4 + x → w'.cell? (ad b o) = wx.cell? (ad b o) := fun b o hb h2 => World.cell?_of_block (a := ad b o) (hg.block b hb (ne _ h2))
  exact {
    c1 := h.c1.kept hg (fun r e => by have := hr r e; omega)
    it := h.it.kept hg (ne _ (by omega))
    it0 := fun z hz => by rw [c _ _ h.it.lt (by omega)]; exact h.it0 z hz
    it1 := fun z hz => by rw [c _ _ h.it.lt (by omega)]; exact h.it1 z hz
    it2 := fun z hz => by rw [c _ _ h.it.lt (by omega)]; exact h.it2 z hz
    it3 := fun z hz => by rw [c _ _ h.it.lt (by omega)]; exact h.it3 z hz
    it4 := fun z hz => by rw [c _ _ h.it.lt (by omega)]; exact h.it4 z hz
    it5 := fun z hz => by rw [c _ _ h.it.lt (by omega)]; exact h.it5 z hz
    rd := fun z hz => (h.rd z hz).kept (hg.block _ (h.rd z hz).lt (ne _ (by omega)))
    jj := h.jj.kept hg (ne _ (by omega))
    kk := h.kk.kept hg (ne _ (by omega))
    kx := fun z hz => by rw [c _ _ h.kk.lt (by omega)]; exact h.kx z hz
    olt := Nat.lt_of_lt_of_le h.olt hg.size
    o0 := by rw [c _ _ h.olt (by omega)]; exact h.o0
    o1 := by rw [c _ _ h.olt (by omega)]; exact h.o1 }

theorem C2.item {ws : Row} {R : Nat → Row} {n k B I J K O x : Nat} {wx : World} (W : Where n B I J K O) (h : C2 ws R n k B I J K O x wx) (o : Nat) (ho : x * 6 ≤ o) (v : Value) : C2 ws R n k B I J K O x (wx.setCell (ad I o) v) := by
  obtain ⟨hi, hj, hk, hO, _, _, _⟩ := W
  have hg := grownBy_setCell_ad wx I o v
  have c : ∀ b o', b < wx.heap.size → b ≠ I → (wx.setCell (ad I o) v).cell? (ad b o') = wx.cell? (ad b o') := fun b o' hb h2 => World.cell?_of_block (a := ad b o') (hg.block b hb (by simpa using h2))
  have d : ∀ o', o' ≠ o → (wx.setCell (ad I o) v).cell? (ad I o') = wx.cell? (ad I o') := fun o' h2 => World.cell?_setCell_other _ _ _ _ (by simp; omega)
  exact {
    c1 := h.c1.kept hg (fun r e => by simp at e; omega)
    it := h.it.set _ _ _
    it0 := fun z hz => by rw [d _ (by omega)]; exact h.it0 z hz
    it1 := fun z hz => by rw [d _ (by omega)]; exact h.it1 z hz
    it2 := fun z hz => by rw [d _ (by omega)]; exact h.it2 z hz
    it3 := fun z hz => by rw [d _ (by omega)]; exact h.it3 z hz
    it4 := fun z hz => by rw [d _ (by omega)]; exact h.it4 z hz
    it5 := fun z hz => by rw [d _ (by omega)]; exact h.it5 z hz
    rd := fun z hz => (h.rd z hz).kept (hg.block _ (h.rd z hz).lt (by simp; omega))
    jj := h.jj.kept hg (by simp; omega)
    kk := h.kk.kept hg (by simp; omega)
    kx := fun z hz => by rw [c _ _ h.kk.lt (by omega)]; exact h.kx z hz
    olt := by simpa using h.olt
    o0 := by rw [c _ _ h.olt (by omega)]; exact h.o0
    o1 := by rw [c _ _ h.olt (by omega)]; exact h.o1 }

/-- The order's row b (J or K) is written at x. -/
theorem C2.ord {ws : Row} {R : Nat → Row} {n k B I J K O x : Nat} {wx : World} (W : Where n B I J K O) (h : C2 ws R n k B I J K O x wx) (b : Nat) (hb : b = J ∨ b = K) (o : Nat) (ho : x ≤ o) (z : Int) : C2 ws R n k B I J K O x (wx.setCell (ad b o) (.int .i64 z)) := by
  obtain ⟨hi, hj, hk, hO, h5, h6, h7⟩ := W
  have hg := grownBy_setCell_ad wx b o (.int .i64 z)
  have c : ∀ b' o', b' < wx.heap.size → b' ≠ b → (wx.setCell (ad b o) (.int .i64 z)).cell? (ad b' o') = wx.cell? (ad b' o') := fun b' o' hb' h2 => World.cell?_of_block (a := ad b' o') (hg.block b' hb' (by simpa using h2))
  have d : ∀ b' o', o' ≠ o → (wx.setCell (ad b o) (.int .i64 z)).cell? (ad b' o') = wx.cell? (ad b' o') := fun b' o' h2 => World.cell?_setCell_other _ _ _ _ (by simp; omega)
  exact {
    c1 := h.c1.kept hg (fun r e => by simp at e; omega)
    it := h.it.set _ _ _
    it0 := fun z hz => by rw [c _ _ h.it.lt (by omega)]; exact h.it0 z hz
    it1 := fun z hz => by rw [c _ _ h.it.lt (by omega)]; exact h.it1 z hz
    it2 := fun z hz => by rw [c _ _ h.it.lt (by omega)]; exact h.it2 z hz
    it3 := fun z hz => by rw [c _ _ h.it.lt (by omega)]; exact h.it3 z hz
    it4 := fun z hz => by rw [c _ _ h.it.lt (by omega)]; exact h.it4 z hz
    it5 := fun z hz => by rw [c _ _ h.it.lt (by omega)]; exact h.it5 z hz
    rd := fun z hz => (h.rd z hz).kept (hg.block _ (h.rd z hz).lt (by simp; omega))
    jj := h.jj.set _ _ _
    kk := h.kk.set _ _ _
    kx := fun z hz => by rw [d _ _ (by omega)]; exact h.kx z hz
    olt := by simpa using h.olt
    o0 := by rw [c _ _ h.olt (by omega)]; exact h.o0
    o1 := by rw [c _ _ h.olt (by omega)]; exact h.o1 }

end Go.Proofs.Qxb6615850a
