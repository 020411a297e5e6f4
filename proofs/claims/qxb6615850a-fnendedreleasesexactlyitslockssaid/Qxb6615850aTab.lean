import Derived.Test.Qxb6615850aState
import Derived.Test.Qxb6615850aOK
namespace Go.Proofs.Qxb6615850a
open Go.RowKit
set_option linter.unusedVariables false

/-! ### new rows -/
def zeros (z : Array Value) (n : Nat) : Array Value := madeCells z n

theorem zeros_get (z : Array Value) (n i : Nat) (h : i < n) : (zeros z n)[i]? = some (z[i % z.size]!) := by
  unfold zeros madeCells
  simp [h]

theorem run_mk (t e : TypeId) (z : Value) (size bytes : Nat) (ht : Try.prog.underlying t = some (.slice e)) (hi : (Try.prog.info? e).map (fun i => (i.zero, i.size, i.bytes)) = some (some z, size, bytes))
    (n : Nat) (hb : bytes ≤ 10000) (hn : n ≤ 1000000) (w : World) :
    (Instr.makeSlice t (.int .i64 n) (.int .i64 n)).run Try.prog w = .ok (.slice (some (ad w.heap.size 0)) n n) (w.alloc (.cells (zeros z.cells (n * size)) e)) := by
  obtain ⟨i, h1, h2, h3, h4⟩ := info_parts hi
  have hbn : bytes * n ≤ 10000 * 1000000 := Nat.mul_le_mul hb hn
  have := run_make w t e i z ht h1 h2 .i64 .i64 n n (by omega) (by omega) (by rw [h4]; omega) (by omega)
  rw [this, h3, Int.toNat_natCast]
  rfl

theorem I3 : (Try.prog.info? 3).map (fun i => (i.zero, i.size, i.bytes)) = some (some (.int .i64 0), 1, 8) := by kernel_rfl
theorem I4 : (Try.prog.info? 4).map (fun i => (i.zero, i.size, i.bytes)) = some (some (.bool false), 1, 1) := by kernel_rfl
theorem I22 : (Try.prog.info? 22).map (fun i => (i.zero, i.size, i.bytes)) = some (some (.slice Option.none 0 0), 1, 24) := by kernel_rfl

/-- Block b holds the ints f from its first cell on, and they may be written. -/
structure Arr (w : World) (b n : Nat) (f : Nat → Int) : Prop where
  lt : b < w.heap.size
  cell : ∀ i, i < n → w.cell? (ad b i) = some (.int .i64 (f i))
  froz : ∀ i, i < n → w.frozen? (ad b i) = false

theorem Arr.kept {w w' : World} {b n : Nat} {f : Nat → Int} {row : Option Nat} (h : Arr w b n f) (hg : w.grownBy w' row) (hne : some b ≠ row) : Arr w' b n f where
  lt := Nat.lt_of_lt_of_le h.lt hg.size
  cell := fun i hi => (World.cell?_of_block (a := ad b i) (hg.block b h.lt hne)).trans (h.cell i hi)
  froz := fun i hi => (World.frozen?_of_block (a := ad b i) (hg.block b h.lt hne)).trans (h.froz i hi)

theorem Arr.set {w : World} {b n : Nat} {f : Nat → Int} (h : Arr w b n f) (i : Nat) (z : Int) (hi : i < n) : Arr (w.setCell (ad b i) (.int .i64 z)) b n (fun j => if j = i then z else f j) where
  lt := by simpa using h.lt
  cell := fun j hj => by
    by_cases e : j = i
    · subst e
      rw [World.cell?_setCell_same _ _ _ (h.cell j hi)]; simp
    · rw [World.cell?_setCell_other _ _ _ _ (by simp; omega), h.cell j hj, if_neg e]
  froz := fun j hj => by rw [World.frozen?_setCell]; exact h.froz j hj

theorem grownBy_setCell_ad (w : World) (g i : Nat) (v : Value) : w.grownBy (w.setCell (ad g i) v) (some g) :=
  ⟨rfl, rfl, rfl, by simp, fun k _ hk => Below.heap_setCell w (ad g i) v k (fun e => hk (by rw [e]))⟩

theorem Arr.other {w : World} {b n : Nat} {f : Nat → Int} (h : Arr w b n f) (c i : Nat) (v : Value) (hne : b ≠ c) : Arr (w.setCell (ad c i) v) b n f :=
  h.kept (grownBy_setCell_ad w c i v) (by simp [hne])

theorem arr_new (w : World) (n : Nat) : Arr (w.alloc (.cells (zeros #[.int .i64 0] n) 3)) w.heap.size n (fun _ => 0) where
  lt := by simp
  cell := fun i hi => by rw [World.cell?_alloc_new, zeros_get _ _ _ hi]; simp [Nat.mod_one]
  froz := fun i hi => by rw [World.frozen?_alloc_new]

/-! ### look-ups -/
theorem zero39 (w : World) : (zeroValue 39).run Try.prog w = .ok (.string ByteArray.empty) w := by kernel_rfl
theorem zero4 (w : World) : (zeroValue 4).run Try.prog w = .ok (.bool false) w := by kernel_rfl

theorem mdb_size (b : Bool) : (mdb b).size ≤ maxLen := by cases b <;> decide

set_option maxRecDepth 10000
theorem string_of_data {s t : ByteArray} (h : s.data.toList = t.data.toList) : s = t := by
  cases s; cases t
  simp only at h
  congr 1
  exact Array.toList_inj.1 h

theorem HeldM.look {w : World} {b k : Nat} {h : Nat → Option Bool} (H : HeldM w b k h) (x : Nat) (hx : x < k) (hk : k ≤ 1000000) (m : Bool) (hm : h x = some m) :
    (Instr.lookup 41 (.map (some b)) (.int .i64 x) true).run Try.prog w = .ok (.tuple #[.string (mdb m), .bool true]) w := by
  obtain ⟨D, nn, ho, hM⟩ := H
  obtain ⟨v, ps, hrun, hv⟩ := ho.look_ok K3 Try.underlying41 (zero39 w) (plainElem_string (H := Unit) Try.underlying39 (by decide)) (key3 x (by omega))
  rw [hM.has x hx, hm] at hrun
  rw [hM.at_ x hx m hm] at hv
  obtain ⟨s, rfl, hz, _⟩ := plainElem_string_inv Try.underlying39 hv
  simp only [md, Prod.mk.injEq, DataW.lit.injEq, Lit.string.injEq] at hz
  rw [string_of_data hz.1]
  exact hrun

theorem HeldM.get {w : World} {b k : Nat} {h : Nat → Option Bool} (H : HeldM w b k h) (x : Nat) (hx : x < k) (hk : k ≤ 1000000) (m : Bool) (hm : h x = some m) :
    (Instr.lookup 41 (.map (some b)) (.int .i64 x) false).run Try.prog w = .ok (.string (mdb m)) w := by
  obtain ⟨D, nn, ho, hM⟩ := H
  obtain ⟨v, ps, hrun, hv⟩ := ho.lookup K3 Try.underlying41 (zero39 w) (plainElem_string (H := Unit) Try.underlying39 (by decide)) (key3 x (by omega))
  rw [hM.at_ x hx m hm] at hv
  obtain ⟨s, rfl, hz, _⟩ := plainElem_string_inv Try.underlying39 hv
  simp only [md, Prod.mk.injEq, DataW.lit.injEq, Lit.string.injEq] at hz
  rw [string_of_data hz.1]
  exact hrun

theorem plainElem_bool_inv {v : Value} {d : Dm} {ps : List MemPlace} (h : plainElem Try.prog 4 v = some (d, ps)) : ∃ x, v = .bool x ∧ d = .lit (.bool x) := by
  unfold plainElem at h
  rw [Try.underlying4] at h
  cases v <;> simp at h
  exact ⟨_, rfl, h.1.symm⟩

theorem ReadM.get {w : World} {b k : Nat} {h : Nat → Option Unit} (H : ReadM w b k h) (x : Nat) (hx : x < k) (hk : k ≤ 1000000) (hm : h x = some ()) :
    (Instr.lookup 43 (.map (some b)) (.int .i64 x) false).run Try.prog w = .ok (.bool true) w := by
  obtain ⟨D, nn, ho, hM⟩ := H
  obtain ⟨v, ps, hrun, hv⟩ := ho.lookup K3 Try.underlying43 (zero4 w) (plainElem_bool (H := Unit) Try.underlying4 false) (key3 x (by omega))
  rw [hM.at_ x hx () hm] at hv
  obtain ⟨s, rfl, hz⟩ := plainElem_bool_inv hv
  simp only [tt, DataW.lit.injEq, Lit.bool.injEq] at hz
  rw [hrun, hz]

theorem HeldM.len {w : World} {b k : Nat} {h : Nat → Option Bool} (H : HeldM w b k h) (ty : TypeId) :
    (Builtin.len_ #[41] ty #[.map (some b)]).run Try.prog w = .ok (.int .i64 (cnt (fun x => (h x).isSome) k)) w := by
  obtain ⟨D, nn, ho, hM⟩ := H
  rw [ho.len Try.underlying41 ty, hM.size]

theorem ReadM.len {w : World} {b k : Nat} {h : Nat → Option Unit} (H : ReadM w b k h) (ty : TypeId) :
    (Builtin.len_ #[43] ty #[.map (some b)]).run Try.prog w = .ok (.int .i64 (cnt (fun x => (h x).isSome) k)) w := by
  obtain ⟨D, nn, ho, hM⟩ := H
  rw [ho.len Try.underlying43 ty, hM.size]

/-! ### the table -/
structure St (w : World) (y : Lay) (n k : Nat) (Wf : Nat → Int) (H : Nat → Nat → Option Bool) (Rd : Nat → Nat → Option Unit) : Prop where
  fixed : Fixed w y n k
  wr : ∀ x, x < k → w.cell? (ad y.IB (x * 6)) = some (.int .i64 (Wf x))
  held : ∀ u, u < n → HeldM w (y.hb u) k (H u)
  rds : ∀ x, x < k → ReadM w (y.rb x) n (Rd x)

theorem St.below {w w' : World} {y : Lay} {n k : Nat} {Wf : Nat → Int} {H : Nat → Nat → Option Bool} {Rd : Nat → Nat → Option Unit} (S : St w y n k Wf H Rd) (hb : Below w.heap.size w w') : St w' y n k Wf H Rd where
  fixed := S.fixed.kept hb.size (fun b h => hb.block b (S.fixed.lt b h))
  wr := fun x hx => by rw [hb.cell (p := ad y.IB (x * 6)) (S.fixed.lt _ (by simp [Lay.fix]))]; exact S.wr x hx
  held := fun u hu => (S.held u hu).kept (hb.block _ (S.held u hu).lt)
  rds := fun u hu => (S.rds u hu).kept (hb.block _ (S.rds u hu).lt)

/-- Is u among the numbers zs? -/
def among (zs : List Int) (u : Nat) : Bool := zs.any (fun z => decide (z = (u : Int)))
def Wd (ws : Row) (dead : Nat → Bool) (x : Nat) : Int := if 0 ≤ ws.zs.getD x 0 ∧ dead (ws.zs.getD x 0).toNat = false then ws.zs.getD x 0 else -1
def Hd (ws : Row) (R : Nat → Row) (dead : Nat → Bool) (u x : Nat) : Option Bool :=
  if dead u then Option.none else if ws.zs.getD x 0 = (u : Int) then some true else if among (R x).zs u then some false else Option.none
def Rdd (R : Nat → Row) (dead : Nat → Bool) (x u : Nat) : Option Unit := if among (R x).zs u && !dead u then some () else Option.none
/-- Is u a live one of the first j? -/
def pr (zs : List Int) (dead : Nat → Bool) (j u : Nat) : Bool := among (zs.take j) u && !dead u

theorem among_zero (u : Nat) (zs : List Int) : among (zs.take 0) u = false := by simp [among]

theorem among_succ (zs : List Int) (j u : Nat) (h : j < zs.length) : among (zs.take (j + 1)) u = (among (zs.take j) u || decide (zs.getD j 0 = (u : Int))) := by
  unfold among
  rw [List.take_succ_eq_append_getElem h, List.any_append]
  simp [List.getD_eq_getElem?_getD, h]

theorem pr_succ_dead (zs : List Int) (dead : Nat → Bool) (j r : Nat) (h : j < zs.length) (hr : zs.getD j 0 = (r : Int)) (hd : dead r = true) (u : Nat) : pr zs dead (j + 1) u = pr zs dead j u := by
  unfold pr
  rw [among_succ zs j u h, hr]
  by_cases e : r = u
  · subst e; simp [hd]
  · have : decide ((r : Int) = (u : Int)) = false := by simp; omega
    rw [this, Bool.or_false]

theorem pr_succ_seen (zs : List Int) (dead : Nat → Bool) (j r : Nat) (h : j < zs.length) (hr : zs.getD j 0 = (r : Int)) (hd : pr zs dead j r = true) (u : Nat) : pr zs dead (j + 1) u = pr zs dead j u := by
  unfold pr at *
  rw [among_succ zs j u h, hr]
  by_cases e : r = u
  · subst e
    simp only [Bool.and_eq_true] at hd
    simp [hd.1]
  · have : decide ((r : Int) = (u : Int)) = false := by simp; omega
    rw [this, Bool.or_false]

theorem pr_succ_new (zs : List Int) (dead : Nat → Bool) (j r : Nat) (h : j < zs.length) (hr : zs.getD j 0 = (r : Int)) (hd : dead r = false) (u : Nat) : pr zs dead (j + 1) u = if u = r then true else pr zs dead j u := by
  unfold pr
  rw [among_succ zs j u h, hr]
  by_cases e : u = r
  · subst e; simp [hd]
  · have : decide ((r : Int) = (u : Int)) = false := by simp; omega
    rw [this, Bool.or_false, if_neg e]

theorem pr_all (zs : List Int) (dead : Nat → Bool) (j u : Nat) (h : zs.length ≤ j) : pr zs dead j u = (among zs u && !dead u) := by
  unfold pr; rw [List.take_of_length_le h]

theorem among_of (zs : List Int) (j r : Nat) (h : j < zs.length) (hr : zs.getD j 0 = (r : Int)) : among zs r = true := by
  unfold among
  rw [List.any_eq_true]
  refine ⟨zs.getD j 0, ?_, by rw [hr]; simp⟩
  rw [List.getD_eq_getElem?_getD, List.getElem?_eq_getElem h]; exact List.getElem_mem h

theorem Rdd_some (R : Nat → Row) (dead : Nat → Bool) (x : Nat) (u : Nat) : (Rdd R dead x u).isSome = (among (R x).zs u && !dead u) := by
  unfold Rdd; split <;> simp_all

theorem Wd_nonneg {ws : Row} {dead : Nat → Bool} {x : Nat} (h : 0 ≤ Wd ws dead x) : 0 ≤ ws.zs.getD x 0 ∧ dead (ws.zs.getD x 0).toNat = false ∧ Wd ws dead x = ws.zs.getD x 0 := by
  unfold Wd at h ⊢
  split at h
  · rename_i hh; rw [if_pos hh]; exact ⟨hh.1, hh.2, rfl⟩
  · omega

theorem Hd_X {ws : Row} {R : Nat → Row} {dead : Nat → Bool} {x : Nat} (h : 0 ≤ Wd ws dead x) : Hd ws R dead (Wd ws dead x).toNat x = some true := by
  obtain ⟨h1, h2, h3⟩ := Wd_nonneg h
  rw [h3]
  unfold Hd
  rw [h2, if_neg (by simp), if_pos (by omega)]

theorem Hd_S {n : Nat} {ws : Row} {R : Nat → Row} {dead : Nat → Bool} {x u : Nat} (hok : OKat n ws R x) (hl : (R x).zs.length = (R x).len) (ha : among (R x).zs u = true) (hd : dead u = false) : Hd ws R dead u x = some false := by
  obtain ⟨h1, h2, h3, h4⟩ := hok
  have hw : ws.zs.getD x 0 < 0 := by
    apply Int.not_le.1
    intro h0
    have := h3 h0
    rw [this] at hl
    have : (R x).zs = [] := List.eq_nil_of_length_eq_zero hl
    rw [this] at ha
    simp [among] at ha
  unfold Hd
  rw [hd, if_neg (by simp), if_neg (by omega), if_pos ha]

/-- The count of a transaction's locks, item by item. -/
theorem held_step {n : Nat} {ws : Row} {R : Nat → Row} {dead : Nat → Bool} {x u : Nat} (hok : OKat n ws R x) (hl : (R x).zs.length = (R x).len) :
    cnt (fun x => (Hd ws R dead u x).isSome) (x + 1) = cnt (fun x => (Hd ws R dead u x).isSome) x + (if Wd ws dead x = (u : Int) then 1 else 0) + (if (among (R x).zs u && !dead u) = true then 1 else 0) := by
  simp only [cnt]
  rw [Nat.add_assoc]
  congr 1
  obtain ⟨h1, h2, h3, h4⟩ := hok
  have hemp : 0 ≤ ws.zs.getD x 0 → among (R x).zs u = false := fun h0 => by
    have := h3 h0
    rw [this] at hl
    have : (R x).zs = [] := List.eq_nil_of_length_eq_zero hl
    rw [this]; rfl
  unfold Hd Wd
  cases hd : dead u with
  | true =>
    simp only [if_true, Option.isSome_none, Bool.not_true, Bool.and_false, Bool.false_eq_true, if_false]
    by_cases hc : 0 ≤ ws.zs.getD x 0 ∧ dead (ws.zs.getD x 0).toNat = false
    · rw [if_pos hc]
      have : ¬ ws.zs.getD x 0 = (u : Int) := fun e => by rw [e] at hc; simp [hd] at hc
      rw [if_neg this]
    · rw [if_neg hc, if_neg (by omega)]
  | false =>
    simp only [Bool.false_eq_true, if_false, Bool.not_false, Bool.and_true]
    by_cases hu : ws.zs.getD x 0 = (u : Int)
    · have hc : 0 ≤ ws.zs.getD x 0 ∧ dead (ws.zs.getD x 0).toNat = false := ⟨by omega, by rw [hu]; simpa using hd⟩
      rw [if_pos hu, if_pos hc, if_pos hu, hemp hc.1]
      rfl
    · rw [if_neg hu]
      have h5 : ¬ (if 0 ≤ ws.zs.getD x 0 ∧ dead (ws.zs.getD x 0).toNat = false then ws.zs.getD x 0 else -1) = (u : Int) := by
        split <;> omega
      rw [if_neg h5]
      cases among (R x).zs u <;> simp

end Go.Proofs.Qxb6615850a
