import Derived.Test.Qxb6615850aBase
import Derived.Deep.RegionHeld3
import Derived.Deep.DrawnRows
import Derived.Deep.QuietTactic
import Derived.BigQuiet
import Derived.BigRegion
namespace Go.Proofs.Qxb6615850a
open Go.RowKit
set_option linter.unusedVariables false

/-- THE ROW THAT IS SORTED: block g holds the ints d from its first cell on, and they may be written. -/
structure Rowz (w : World) (g : Nat) (d : List Int) : Prop where
  lt : g < w.heap.size
  cell : ∀ i, i < d.length → w.cell? ⟨g, i, Option.none⟩ = some (.int .i64 (d.getD i 0))
  froz : ∀ i, i < d.length → w.frozen? ⟨g, i, Option.none⟩ = false

theorem Rowz.kept {w w' : World} {g : Nat} {d : List Int} {row : Option Nat} (h : Rowz w g d) (hg : w.grownBy w' row) (hne : some g ≠ row) : Rowz w' g d where
  lt := Nat.lt_of_lt_of_le h.lt hg.size
  cell := fun i hi => (World.cell?_of_block (a := ⟨g, i, Option.none⟩) (hg.block g h.lt hne)).trans (h.cell i hi)
  froz := fun i hi => (World.frozen?_of_block (a := ⟨g, i, Option.none⟩) (hg.block g h.lt hne)).trans (h.froz i hi)

def swp (d : List Int) (i j : Nat) : List Int := (d.set i (d.getD j 0)).set j (d.getD i 0)

theorem swp_perm (d : List Int) (i j : Nat) (hi : i < d.length) (hj : j < d.length) : (swp d i j).Perm d := by
  have h := Array.swap_perm (xs := d.toArray) (i := i) (j := j) (by simpa using hi) (by simpa using hj)
  have e : (d.toArray.swap i j (by simpa using hi) (by simpa using hj)).toList = swp d i j := by
    unfold swp
    rw [Array.toList_swap]
    simp [List.getD_eq_getElem?_getD, hi, hj]
  have h2 := h.toList
  rw [e] at h2
  simpa using h2

theorem swp_length (d : List Int) (i j : Nat) : (swp d i j).length = d.length := by simp [swp]

theorem grownBy_setCell_at (w : World) (g i : Nat) (v : Value) : w.grownBy (w.setCell ⟨g, i, Option.none⟩ v) (some g) :=
  ⟨rfl, rfl, rfl, by simp, fun k _ hk => Below.heap_setCell w ⟨g, i, Option.none⟩ v k (fun e => hk (by rw [e]))⟩

theorem grownBy.tr {a b c : World} {row : Option Nat} (h : a.grownBy b row) (k : b.grownBy c row) : a.grownBy c row :=
  ⟨k.os.trans h.os, k.tape.trans h.tape, k.output.trans h.output, Nat.le_trans h.size k.size, fun x hx hr => (k.block x (Nat.lt_of_lt_of_le hx h.size) hr).trans (h.block x hx hr)⟩

theorem grownBy.wid {a b : World} (row : Option Nat) (h : a.grownBy b Option.none) : a.grownBy b row :=
  ⟨h.os, h.tape, h.output, h.size, fun x hx _ => h.block x hx (by simp)⟩

theorem Rowz.set {w : World} {g : Nat} {d : List Int} (h : Rowz w g d) (i : Nat) (z : Int) (hi : i < d.length) : Rowz (w.setCell ⟨g, i, Option.none⟩ (.int .i64 z)) g (d.set i z) where
  lt := by simpa using h.lt
  cell := fun j hj => by
    rw [List.length_set] at hj
    by_cases e : i = j
    · subst e
      rw [World.cell?_setCell_same _ _ _ (h.cell i hi)]
      simp [List.getD_eq_getElem?_getD, hi]
    · rw [World.cell?_setCell_other _ _ _ _ (by simp_all), h.cell j hj]
      simp [List.getD_eq_getElem?_getD, e]
  froz := fun j hj => by
    rw [List.length_set] at hj
    rw [World.frozen?_setCell]; exact h.froz j hj

theorem Rowz.swap {w : World} {g : Nat} {d : List Int} (h : Rowz w g d) (i j : Nat) (hi : i < d.length) (hj : j < d.length) :
    Rowz ((w.setCell ⟨g, i, Option.none⟩ (.int .i64 (d.getD j 0))).setCell ⟨g, j, Option.none⟩ (.int .i64 (d.getD i 0))) g (swp d i j) :=
  (h.set i _ hi).set j _ (by rw [List.length_set]; exact hj)

/-- The comparison handed to the sort: whatever it answers, it only lays new blocks. -/
structure Cmp (g E : Nat) (rv : Value) (ok : Int → Prop) (Env : World → Prop) : Prop where
  keep : ∀ W W' r, Env W → W.grownBy W' (some r) → (r = g ∨ E ≤ r) → Env W'
  low : ∀ W, Env W → E ≤ W.heap.size
  old : g < E
  call : ∀ W x y, Env W → ok x → ok y → Calls Try.prog 27 #[rv, .int .i64 x, .int .i64 y] W fun e w' => (∃ r : Int, e = .returned (.int .i64 r)) ∧ W.grownBy w' Option.none

/-- From W to w' the row has been put in another order, and blocks have been laid. -/
structure Perms (g : Nat) (Env : World → Prop) (W : World) (d : List Int) (w' : World) (d' : List Int) : Prop where
  perm : d'.Perm d
  row : Rowz w' g d'
  env : Env w'
  grown : W.grownBy w' (some g)

theorem Perms.len {g : Nat} {Env : World → Prop} {W w' : World} {d d' : List Int} (h : Perms g Env W d w' d') : d'.length = d.length := h.perm.length_eq

theorem Perms.grow {g E : Nat} {Env : World → Prop} {rv : Value} {ok : Int → Prop} {W w' w'' : World} {d d' : List Int} (h : Perms g Env W d w' d') (C : Cmp g E rv ok Env) (hg : w'.grownBy w'' Option.none) : Perms g Env W d w'' d' where
  perm := h.perm
  row := h.row.kept hg (by simp)
  env := C.keep _ _ g h.env (grownBy.wid _ hg) (Or.inl rfl)
  grown := grownBy.tr h.grown (grownBy.wid _ hg)

theorem Perms.trans {g : Nat} {Env : World → Prop} {W w' w'' : World} {d d' d'' : List Int} (h : Perms g Env W d w' d') (k : Perms g Env w' d' w'' d'') : Perms g Env W d w'' d'' where
  perm := k.perm.trans h.perm
  row := k.row
  env := k.env
  grown := grownBy.tr h.grown k.grown

theorem Perms.swap {g E : Nat} {Env : World → Prop} {rv : Value} {ok : Int → Prop} {W w' : World} {d d' : List Int} (h : Perms g Env W d w' d') (C : Cmp g E rv ok Env) (i j : Nat) (hi : i < d'.length) (hj : j < d'.length) :
    Perms g Env W d ((w'.setCell ⟨g, i, Option.none⟩ (.int .i64 (d'.getD j 0))).setCell ⟨g, j, Option.none⟩ (.int .i64 (d'.getD i 0))) (swp d' i j) where
  perm := (swp_perm d' i j hi hj).trans h.perm
  row := h.row.swap i j hi hj
  env := C.keep _ _ g (C.keep _ _ g h.env (grownBy_setCell_at _ _ _ _) (Or.inl rfl)) (grownBy_setCell_at _ _ _ _) (Or.inl rfl)
  grown := grownBy.tr (grownBy.tr h.grown (grownBy_setCell_at _ _ _ _)) (grownBy_setCell_at _ _ _ _)

theorem Perms.drew {g E : Nat} {Env : World → Prop} {rv : Value} {ok : Int → Prop} {W w' : World} {d d' : List Int} (h : Perms g Env W d w' d') (C : Cmp g E rv ok Env) : Perms g Env W d w'.drew d' :=
  h.grow C ⟨rfl, rfl, rfl, Nat.le_refl _, fun _ _ _ => rfl⟩

theorem Perms.ok {g : Nat} {Env : World → Prop} {W w' : World} {d d' : List Int} (h : Perms g Env W d w' d') {ok : Int → Prop} (hd : ∀ z ∈ d, ok z) (i : Nat) (hi : i < d.length) : ok (d'.getD i 0) := by
  have hi' : i < d'.length := by rw [h.len]; exact hi
  have : d'.getD i 0 ∈ d' := by
    rw [List.getD_eq_getElem?_getD, List.getElem?_eq_getElem hi']
    exact List.getElem_mem hi'
  exact hd _ (h.perm.mem_iff.1 this)

theorem Perms.swapX {g E : Nat} {Env : World → Prop} {rv : Value} {ok : Int → Prop} {W w' : World} {d d' : List Int} (h : Perms g Env W d w' d') (C : Cmp g E rv ok Env) (i j : Nat) (hi : i < d.length) (hj : j < d.length) {x y : Int} (hx : Hid (d'.getD i 0 = x)) (hy : Hid (d'.getD j 0 = y)) :
    ∃ d'', Perms g Env W d ((w'.setCell ⟨g, i, Option.none⟩ (.int .i64 y)).setCell ⟨g, j, Option.none⟩ (.int .i64 x)) d'' := by
  have l := h.len
  have := h.swap C i j (by omega) (by omega)
  rw [hx.out, hy.out] at this
  exact ⟨_, this⟩

theorem Perms.drewN {g E : Nat} {Env : World → Prop} {rv : Value} {ok : Int → Prop} {W w' : World} {d d' : List Int} (h : Perms g Env W d w' d') (C : Cmp g E rv ok Env) (n : Nat) : Perms g Env W d (w'.drewN n) d' :=
  h.grow C ⟨rfl, rfl, rfl, Nat.le_refl _, fun _ _ _ => rfl⟩

theorem wrapId (x : Int) (h1 : -9223372036854775808 ≤ x) (h2 : x ≤ 9223372036854775807) : IntKind.i64.wrap x = x := by
  simp [IntKind.wrap, IntKind.bits, IntKind.signed]; omega

set_option maxHeartbeats 1000000 in
theorem insertion (g E cap a b : Nat) (d : List Int) (rv : Value) (ok : Int → Prop) (Env : World → Prop) (C : Cmp g E rv ok Env) (W : World) (hr : Rowz W g d) (he : Env W) (hd : ∀ z ∈ d, ok z)
    (hab : a ≤ b) (hb : b ≤ d.length) (hN : d.length ≤ 1000000) :
    Calls Try.prog 34 #[.slice (some ⟨g, 0, Option.none⟩) d.length cap, .int .i64 a, .int .i64 b, .func (.func 27) #[rv] #[]] W fun e w' => e = .returned (.tuple #[]) ∧ ∃ d', Perms g Env W d w' d' := by
  have hst : Perms g Env W d W d := ⟨List.Perm.refl _, hr, he, World.grownBy.refl _ _⟩
  clear hr he
  go_enter Try.func34, Try.ntmps34
  go_wp2_with fail
  go_loopw [8] (fun i w => ∃ (ii : Nat) (d' : List Int), i = .int .i64 ii ∧ a + 1 ≤ ii ∧ Perms g Env W d w d') (fun i _ => d.length - (intOf i).toNat)
  case atStart => exact ⟨a + 1, d, by go_num, Nat.le_refl _, hst⟩
  case round =>
    obtain ⟨ii, d1, rfl, hii, hp⟩ := hrel
    by_cases hlt : ii < b
    · go_wp2_with fail
      go_loopw [9] (fun j w => ∃ (jj : Nat) (d' : List Int), j = .int .i64 jj ∧ a ≤ jj ∧ jj ≤ ii ∧ Perms g Env W d w d') (fun j _ => (intOf j).toNat)
      case atStart => exact ⟨ii, d1, rfl, by omega, Nat.le_refl _, hp⟩
      case round =>
        obtain ⟨jj, d2, rfl, hja, hji, hp2⟩ := hrel
        by_cases hgt : a < jj
        · obtain ⟨q, rfl⟩ : ∃ q, jj = q + 1 := ⟨jj - 1, by omega⟩
          have hl2 := hp2.len
          have c1 := hp2.row.cell (q + 1) (by omega)
          have c2 := hp2.row.cell q (by omega)
          have o1 := hp2.ok hd (q + 1) (by omega)
          have o2 := hp2.ok hd q (by omega)
          have HP : Hid (Perms g Env W d _ d2) := hp2
          have hdec : decide ((a : Int) < (q : Int) + 1) = true := by simp; omega
          have i1 : (q : Int) + 1 < (d.length : Int) := by omega
          have i2 : (q : Int) < (d.length : Int) := by omega
          have i3 : (0 : Int) ≤ (q : Int) := by omega
          have i4 : (0 : Int) ≤ (q : Int) + 1 := by omega
          have k1 : IntKind.i64.wrap (q : Int) = q := wrapId _ (by omega) (by omega)
          generalize hx1 : d2.getD (q + 1) 0 = x1 at *
          generalize hx2 : d2.getD q 0 = x2 at *
          have HX1 : Hid (d2.getD (q + 1) 0 = x1) := hx1
          have HX2 : Hid (d2.getD q 0 = x2) := hx2
          clear hx1 hx2
          go_wp2_with fail
          go_region_held3 (fun w' => w'.cell? ⟨g, q + 1, Option.none⟩ = some (.int .i64 x1) ∧ w'.cell? ⟨g, q, Option.none⟩ = some (.int .i64 x2))
            (first | go_keep | exact ⟨hg1.cell (by assumption) (by simp), hg1.cell (by assumption) (by simp)⟩)
            (first | (go_at_call 27; refine (C.call _ _ _ ?_ o1 o2).mono ?_; (exact (HP.out.drew C).env); rintro e w1 ⟨⟨r, rfl⟩, hg1⟩))
          have hp3 : Perms g Env W d w1 d2 := (HP.out.drew C).grow C hg1
          have e1 := hp3.row.cell (q + 1) (by omega)
          have e2 := hp3.row.cell q (by omega)
          have f1 := hp3.row.froz (q + 1) (by omega)
          have f2 := hp3.row.froz q (by omega)
          rw [HX1.out] at e1
          rw [HX2.out] at e2
          clear c1 c2 hg1
          go_wp2_with fail
          · go_region
            go_wp2_with fail
            obtain ⟨d3, h3⟩ := hp3.swapX C (q + 1) q (by omega) (by omega) HX1 HX2
            exact ⟨⟨q, d3, rfl, by omega, by omega, h3.drew C⟩, by simp [intOf]⟩
          · exact ⟨⟨ii + 1, d2, by go_num, by omega, hp3⟩, by simp [intOf]; omega⟩
        · have hdec : decide ((a : Int) < (jj : Int)) = false := by simp; omega
          go_wp2_with fail
          go_quiet (fail)
          go_wp2_with fail
          exact ⟨⟨ii + 1, d2, by go_num, by omega, hp2.drewN C _⟩, by simp [intOf]; omega⟩
    · go_wp2_with fail
      go_end0
      exact ⟨rfl, d1, hp⟩

theorem Perms.start {g : Nat} {Env : World → Prop} {W : World} {d : List Int} (hr : Rowz W g d) (he : Env W) : Perms g Env W d W d := ⟨List.Perm.refl _, hr, he, World.grownBy.refl _ _⟩

set_option maxHeartbeats 1000000 in
theorem reverse (g E cap a b : Nat) (d : List Int) (rv : Value) (ok : Int → Prop) (Env : World → Prop) (C : Cmp g E rv ok Env) (W : World) (hr : Rowz W g d) (he : Env W)
    (hab : a < b) (hb : b ≤ d.length) (hN : d.length ≤ 1000000) :
    Calls Try.prog 38 #[.slice (some ⟨g, 0, Option.none⟩) d.length cap, .int .i64 a, .int .i64 b, .func (.func 27) #[rv] #[]] W fun e w' => e = .returned (.tuple #[]) ∧ ∃ d', Perms g Env W d w' d' := by
  have hst : Perms g Env W d W d := .start hr he
  clear hr he
  obtain ⟨b', rfl⟩ : ∃ b', b = b' + 1 := ⟨b - 1, by omega⟩
  go_enter Try.func38, Try.ntmps38
  go_wp2_with fail
  go_loopw [8, 9] (fun i j w => ∃ (ii jj : Nat) (d' : List Int), i = .int .i64 ii ∧ j = .int .i64 jj ∧ jj < d.length ∧ Perms g Env W d w d') (fun i j _ => (intOf j).toNat - (intOf i).toNat)
  case atStart => exact ⟨a, b', d, rfl, by go_num, by omega, hst⟩
  case round =>
    obtain ⟨ii, jj, d1, rfl, rfl, hjj, hp⟩ := hrel
    by_cases hlt : ii < jj
    · obtain ⟨q, rfl⟩ : ∃ q, jj = q + 1 := ⟨jj - 1, by omega⟩
      have hl := hp.len
      have e1 := hp.row.cell ii (by omega)
      have e2 := hp.row.cell (q + 1) (by omega)
      have f1 := hp.row.froz ii (by omega)
      have f2 := hp.row.froz (q + 1) (by omega)
      have HP : Hid (Perms g Env W d _ d1) := hp
      generalize hx1 : d1.getD ii 0 = x1 at *
      generalize hx2 : d1.getD (q + 1) 0 = x2 at *
      have HX1 : Hid (d1.getD ii 0 = x1) := hx1
      have HX2 : Hid (d1.getD (q + 1) 0 = x2) := hx2
      clear hx1 hx2 hp
      go_wp2_with fail
      go_region
      go_wp2_with fail
      obtain ⟨d3, h3⟩ := HP.out.swapX C ii (q + 1) (by omega) (by omega) HX1 HX2
      exact ⟨⟨ii + 1, q, d3, by go_num, by go_num, by omega, h3.drew C⟩, by simp [intOf]; omega⟩
    · go_wp2_with fail
      go_end0
      exact ⟨rfl, d1, hp⟩

/-- What the search of a pivot leaves: the row as it was; the count of swaps in a block of its own. -/
structure Piv (g sb : Nat) (Env : World → Prop) (W : World) (d : List Int) (w' : World) : Prop where
  row : Rowz w' g d
  env : Env w'
  cell : ∃ s : Int, w'.cell? ⟨sb, 0, Option.none⟩ = some (.int .i64 s)
  froz : w'.frozen? ⟨sb, 0, Option.none⟩ = false
  lt : sb < w'.heap.size
  grown : W.grownBy w' (some sb)

theorem Piv.trans {g sb : Nat} {Env : World → Prop} {W w' w'' : World} {d : List Int} (h : Piv g sb Env W d w') (k : Piv g sb Env w' d w'') : Piv g sb Env W d w'' :=
  ⟨k.row, k.env, k.cell, k.froz, k.lt, grownBy.tr h.grown k.grown⟩

theorem Piv.grow {g E sb : Nat} {Env : World → Prop} {rv : Value} {ok : Int → Prop} {W w' w'' : World} {d : List Int} (h : Piv g sb Env W d w') (C : Cmp g E rv ok Env) (hg : w'.grownBy w'' Option.none) : Piv g sb Env W d w'' where
  row := h.row.kept hg (by simp)
  env := C.keep _ _ g h.env (grownBy.wid _ hg) (Or.inl rfl)
  cell := by obtain ⟨s, hs⟩ := h.cell; exact ⟨s, hg.cell hs (by simp)⟩
  froz := (World.frozen?_of_block (a := ⟨sb, 0, Option.none⟩) (hg.block sb h.lt (by simp))).trans h.froz
  lt := Nat.lt_of_lt_of_le h.lt hg.size
  grown := grownBy.tr h.grown (grownBy.wid _ hg)

theorem Piv.set {g E sb : Nat} {Env : World → Prop} {rv : Value} {ok : Int → Prop} {W w' : World} {d : List Int} (h : Piv g sb Env W d w') (C : Cmp g E rv ok Env) (hE : E ≤ sb) (s : Int) : Piv g sb Env W d (w'.setCell ⟨sb, 0, Option.none⟩ (.int .i64 s)) where
  row := h.row.kept (grownBy_setCell_at w' sb 0 _) (by have := C.old; simp; omega)
  env := C.keep _ _ sb h.env (grownBy_setCell_at _ _ _ _) (Or.inr hE)
  cell := by obtain ⟨s', hs⟩ := h.cell; exact ⟨s, World.cell?_setCell_same _ _ _ hs⟩
  froz := by rw [World.frozen?_setCell]; exact h.froz
  lt := by simpa using h.lt
  grown := grownBy.tr h.grown (grownBy_setCell_at _ _ _ _)

def RetTwo (a b : Nat) (e : Ending) : Prop := ∃ x y : Nat, e = .returned (.tuple #[.int .i64 x, .int .i64 y]) ∧ ((x = a ∧ y = b) ∨ (x = b ∧ y = a))

set_option maxHeartbeats 1000000 in
theorem order2 (g E sb cap a b : Nat) (d : List Int) (rv : Value) (ok : Int → Prop) (Env : World → Prop) (C : Cmp g E rv ok Env) (W : World) (hp : Piv g sb Env W d W) (hE : E ≤ sb) (hd : ∀ z ∈ d, ok z)
    (ha : a < d.length) (hb : b < d.length) (hN : d.length ≤ 1000000) :
    Calls Try.prog 49 #[.slice (some ⟨g, 0, Option.none⟩) d.length cap, .int .i64 a, .int .i64 b, .pointer (some ⟨sb, 0, Option.none⟩), .func (.func 27) #[rv] #[]] W fun e w' => RetTwo a b e ∧ Piv g sb Env W d w' := by
  have hmem : ∀ i, i < d.length → ok (d.getD i 0) := fun i hi => hd _ (by rw [List.getD_eq_getElem?_getD, List.getElem?_eq_getElem hi]; exact List.getElem_mem hi)
  have c1 := hp.row.cell a ha
  have c2 := hp.row.cell b hb
  have o1 := hmem a ha
  have o2 := hmem b hb
  have HP : Hid (Piv g sb Env W d W) := hp
  generalize d.getD a 0 = x1 at *
  generalize d.getD b 0 = x2 at *
  have i1 : (a : Int) < (d.length : Int) := by omega
  have i2 : (b : Int) < (d.length : Int) := by omega
  have i3 : (0 : Int) ≤ (a : Int) := by omega
  have i4 : (0 : Int) ≤ (b : Int) := by omega
  clear hp hmem hd
  go_enter Try.func49, Try.ntmps49
  go_wp2_with fail
  go_region_held3 (fun w' => w'.cell? ⟨g, a, Option.none⟩ = some (.int .i64 x1) ∧ w'.cell? ⟨g, b, Option.none⟩ = some (.int .i64 x2))
    (first | go_keep | exact ⟨hg1.cell (by assumption) (by simp), hg1.cell (by assumption) (by simp)⟩)
    (first | (go_at_call 27; refine (C.call _ _ _ ?_ o2 o1).mono ?_; (exact (C.keep _ _ g HP.out.env ⟨rfl, rfl, rfl, Nat.le_refl _, fun _ _ _ => rfl⟩ (Or.inl rfl))); rintro e w1 ⟨⟨r, rfl⟩, hg1⟩))
  have hp3 : Piv g sb Env W d w1 := (HP.out.grow C (w'' := W.drew) ⟨rfl, rfl, rfl, Nat.le_refl _, fun _ _ _ => rfl⟩).grow C hg1
  obtain ⟨s, hs⟩ := hp3.cell
  have fs := hp3.froz
  have HP3 : Hid (Piv g sb Env W d w1) := hp3
  clear hp3 c1 c2 hg1
  go_wp2_with fail
  · go_ret2
    exact ⟨⟨b, a, rfl, Or.inr ⟨rfl, rfl⟩⟩, HP3.out.set C hE _⟩
  · go_ret2
    exact ⟨⟨a, b, rfl, Or.inl ⟨rfl, rfl⟩⟩, HP3.out⟩

end Go.Proofs.Qxb6615850a
