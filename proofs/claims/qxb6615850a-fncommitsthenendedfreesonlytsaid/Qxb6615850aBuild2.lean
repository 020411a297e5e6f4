import Derived.Test.Qxb6615850aBuild
namespace Go.Proofs.Qxb6615850a
open Go.RowKit
set_option linter.unusedVariables false
set_option linter.unusedSimpArgs false

/-- The state in loop 1, with the block of the map at hand. -/
def L1 (ws : Row) (R : Nat → Row) (n k i m : Nat) (w wx : World) : Prop := C1 ws R n k w.heap.size i wx ∧ Below w.heap.size w wx ∧ wx.heap.size = w.heap.size + 3 + m

theorem L1.turn {ws : Row} {R : Nat → Row} {n k i m : Nat} {w wx w' : World} (h : L1 ws R n k i m w wx) (hg : wx.grownBy w' (some (w.heap.size + 3 + i))) (hs : w'.heap.size = wx.heap.size) : L1 ws R n k i m w w' :=
  ⟨h.1.kept hg (fun r e => by simp at e; omega), h.2.1.grown hg (by have := h.2.2; omega) (by simp; omega), by rw [hs]; exact h.2.2⟩

theorem ints_of_block {W : World} {J k : Nat} (h : W.heap[J]? = some (.cells (zeros #[.int .i64 0] k) 3)) : Ints W J k where
  lt := by
    rcases Nat.lt_or_ge J W.heap.size with h1 | h1
    · exact h1
    · rw [Array.getElem?_eq_none h1] at h; cases h
  cell := fun o ho => ⟨0, by rw [cell_of_row W J o _ 3 (0, 0) h, zeros_get _ _ _ ho]; simp [Nat.mod_one]⟩
  froz := fun o ho => by unfold World.frozen?; simp [h]

/-! Three blocks laid. -/
theorem al3_g (wc : World) (a b c : Obj) : wc.grownBy (((wc.alloc a).alloc b).alloc c).drew Option.none :=
  ⟨rfl, rfl, rfl, by show wc.heap.size ≤ ((((wc.alloc a).alloc b).alloc c)).heap.size; simp; omega, fun k hk _ => by
    show (((wc.alloc a).alloc b).alloc c).heap[k]? = _
    rw [Below.heap_alloc _ _ _ (by simp; omega), Below.heap_alloc _ _ _ (by simp; omega), Below.heap_alloc _ _ _ hk]⟩
theorem al3_s (wc : World) (a b c : Obj) : (((wc.alloc a).alloc b).alloc c).drew.heap.size = wc.heap.size + 3 := by
  show (((wc.alloc a).alloc b).alloc c).heap.size = _
  simp
theorem al3_2 (wc : World) (a b c : Obj) : (((wc.alloc a).alloc b).alloc c).drew.heap[wc.heap.size + 1 + 1]? = some c := by
  show (Array.push (Array.push (Array.push _ _) _) _)[wc.heap.size + 1 + 1]? = _
  simp [Array.getElem_push]
theorem al3_1 (wc : World) (a b c : Obj) : (((wc.alloc a).alloc b).alloc c).drew.heap[wc.heap.size + 1]? = some b := by
  show (Array.push (Array.push (Array.push _ _) _) _)[wc.heap.size + 1]? = _
  simp [Array.getElem_push]
theorem al3_0 (wc : World) (a b c : Obj) : (((wc.alloc a).alloc b).alloc c).drew.heap[wc.heap.size]? = some a := by
  show (Array.push (Array.push (Array.push _ _) _) _)[wc.heap.size]? = _
  simp [Array.getElem?_push]
  omega

theorem C2.start {ws : Row} {R : Nat → Row} {n k : Nat} {w wc W : World} {J K O : Nat} (h : L1 ws R n k n (n + 1) w wc ∧ Blk wc (w.heap.size + 3 + n) (k * 6)) (hg : wc.grownBy W Option.none) (hs : W.heap.size = wc.heap.size + 3)
    (hO : W.heap[O]? = some (.cells #[.slice (some (ad J 0)) k k, .slice (some (ad K 0)) k k] 58)) (hJ : W.heap[J]? = some (.cells (zeros #[.int .i64 0] k) 3)) (hK : W.heap[K]? = some (.cells (zeros #[.int .i64 0] k) 3))
    (h1 : wc.heap.size ≤ J ∧ wc.heap.size ≤ K ∧ wc.heap.size ≤ O) (h2 : J < wc.heap.size + 3 ∧ K < wc.heap.size + 3 ∧ O < wc.heap.size + 3) (h3 : J ≠ K ∧ J ≠ O ∧ K ≠ O) :
    Where n w.heap.size (w.heap.size + 3 + n) J K O ∧ Aside (C2 ws R n k w.heap.size (w.heap.size + 3 + n) J K O 0 W ∧ Below w.heap.size w W ∧ W.heap.size = w.heap.size + 3 + n + 4) := by
  obtain ⟨⟨a1, a2, a3⟩, a4⟩ := h
  refine ⟨⟨rfl, by omega, by omega, by omega, h3.1, h3.2.1, h3.2.2⟩, ?_, a2.grown hg (by omega) (by simp), by omega⟩
  exact {
    c1 := a1.kept hg (by simp)
    it := a4.kept hg (by simp)
    it0 := fun z hz => by omega
    it1 := fun z hz => by omega
    it2 := fun z hz => by omega
    it3 := fun z hz => by omega
    it4 := fun z hz => by omega
    it5 := fun z hz => by omega
    rd := fun z hz => by omega
    jj := ints_of_block hJ
    kk := ints_of_block hK
    kx := fun z hz => by omega
    olt := by omega
    o0 := cell_of_row W O 0 _ 58 (0, 0) hO
    o1 := cell_of_row W O 1 _ 58 (0, 0) hO }

/-- Item x is laid. -/
theorem C2.next {ws : Row} {R : Nat → Row} {n k B I J K O x : Nat} {wx : World} (h : C2 ws R n k B I J K O x wx)
    (h0 : wx.cell? (ad I (x * 6)) = some (.int .i64 (Wd ws (fun _ => false) x))) (h1 : wx.cell? (ad I (x * 6 + 1)) = some (.map (some (I + 4 + x)))) (h2 : wx.cell? (ad I (x * 6 + 2)) = some (.slice Option.none 0 0)) (h3 : wx.cell? (ad I (x * 6 + 3)) = some (.slice Option.none 0 0))
    (h4 : wx.cell? (ad I (x * 6 + 4)) = some (.slice Option.none 0 0)) (h5 : wx.cell? (ad I (x * 6 + 5)) = some (.bool false)) (hr : ReadM wx (I + 4 + x) n (Rdd R (fun _ => false) x)) (hk : wx.cell? (ad K x) = some (.int .i64 x)) : C2 ws R n k B I J K O (x + 1) wx := by
  have l : ∀ (p : Nat → Prop), (∀ z, z < x → p z) → p x → ∀ z, z < x + 1 → p z := fun p a b z hz => by
    by_cases e : z = x
    · subst e; exact b
    · exact a z (by omega)
  exact {
    c1 := h.c1
    it := h.it
    it0 := l _ h.it0 h0
    it1 := l _ h.it1 h1
    it2 := l _ h.it2 h2
    it3 := l _ h.it3 h3
    it4 := l _ h.it4 h4
    it5 := l _ h.it5 h5
    rd := l _ h.rd hr
    jj := h.jj
    kk := h.kk
    kx := l _ h.kx hk
    olt := h.olt
    o0 := h.o0
    o1 := h.o1 }

/-- The locking stands. -/
theorem C2.finish {ws : Row} {R : Nat → Row} {n k B I J K O : Nat} {w wr W : World} {C8 C9 : Array Value} (hB : B = w.heap.size) (h : C2 ws R n k B I J K O k wr) (Wh : Where n B I J K O) (hlow : Below w.heap.size w wr) (hsz : wr.heap.size = I + 4 + k)
    (hg : wr.grownBy W Option.none) (hs : W.heap.size = wr.heap.size + 3) (a0 : W.heap[wr.heap.size]? = some (.cells (zeros #[.string ⟨#[]⟩] k) 9)) (a1 : W.heap[wr.heap.size + 1]? = some (.cells C8 80)) (a2 : W.heap[wr.heap.size + 1 + 1]? = some (.cells C9 87))
    (e2 : C8[2]? = some (.slice (some (ad B 0)) n n)) (e3 : C8[3]? = some (.slice (some (ad wr.heap.size 0)) k k)) (e10 : C8[10]? = some (.slice (some (ad J 0)) k k)) (e11 : C8[11]? = some (.slice (some (ad K 0)) k k)) (e14 : C8[14]? = some (.func (.func 22) #[] #[])) (e15 : C8[15]? = some (.bool false))
    (d0 : C9[0]? = some (.pointer (some (ad (wr.heap.size + 1) 0)))) (d3 : C9[3]? = some (.slice (some (ad (B + 2) 0)) n n)) (d4 : C9[4]? = some (.slice (some (ad I 0)) k k)) :
    ∃ y : Lay, y.M = wr.heap.size + 1 + 1 ∧ Apart y n k w.heap.size ∧ St W y n k (Wd ws (fun _ => false)) (Hd ws R (fun _ => false)) (Rdd R (fun _ => false)) ∧ Below w.heap.size w W := by
  subst hB
  have hi := Wh.i
  have hj := Wh.j
  have hk := Wh.k
  have ho := Wh.o
  have h' := h.kept Wh hg (by simp)
  refine ⟨⟨wr.heap.size + 1 + 1, wr.heap.size + 1, w.heap.size + 2, I, w.heap.size, wr.heap.size, J, K, fun u => w.heap.size + 3 + u, fun x => I + 4 + x⟩, rfl, ?_, ?_, hlow.grown hg (by omega) (by simp)⟩
  · exact {
      hbf := fun u hu => by simp [Lay.fix]; omega
      rbf := fun x hx => by simp [Lay.fix]; omega
      hr := fun u x hu hx => by dsimp only; omega
      hh := fun u v hu hv e => by dsimp only at e; omega
      rr := fun u v hu hv e => by dsimp only at e; omega
      ib := fun b hb => by simp at hb; dsimp only; omega
      bh := fun u hu => by dsimp only; omega
      br := fun x hx => by dsimp only; omega
      bi := by dsimp only; omega }
  · refine ⟨?_, h'.it0, h'.c1.held, h'.rd⟩
    exact {
      mS := by rw [cell_of_row W _ 0 _ 87 (0, 0) a2]; exact d0
      mL := by rw [cell_of_row W _ 3 _ 87 (0, 0) a2]; exact d3
      mI := by rw [cell_of_row W _ 4 _ 87 (0, 0) a2]; exact d4
      sN := by rw [cell_of_row W _ 2 _ 80 (0, 0) a1]; exact e2
      sZ := by rw [cell_of_row W _ 3 _ 80 (0, 0) a1]; exact e3
      sJ := by rw [cell_of_row W _ 10 _ 80 (0, 0) a1]; exact e10
      sR := by rw [cell_of_row W _ 11 _ 80 (0, 0) a1]; exact e11
      sY := by rw [cell_of_row W _ 14 _ 80 (0, 0) a1]; exact e14
      sP := by rw [cell_of_row W _ 15 _ 80 (0, 0) a1]; exact e15
      hold := h'.c1.hold
      name := h'.c1.nm.cell
      item := fun x hx => ⟨⟨#[]⟩, by rw [cell_of_row W _ x _ 9 (0, 0) a0, zeros_get _ _ _ hx]; simp [Nat.mod_one]⟩
      rank := h'.kx
      read := h'.it1
      ws := h'.it2
      wx := h'.it3
      wu := h'.it4
      ch := h'.it5
      fz := fun x hx => h'.it.froz _ (by omega)
      lt := fun b hb => by
        simp [Lay.fix] at hb
        have := h'.it.lt
        have := h'.kk.lt
        rcases hb with rfl | rfl | rfl | rfl | rfl | rfl | rfl <;> omega }

set_option maxRecDepth 100000 in
set_option maxHeartbeats 16000000 in
theorem build_any (s : ByteArray) (ta : Option Addr) (n tcp : Nat) (tz : List Int) (wa : Option Addr) (wcp : Nat) (wz : List Int) (a : Option Addr) (k c : Nat) (R : Nat → Row) (ax : Option Addr) (cx : Nat) (X : Nat → Row) (as_ : Option Addr) (cs : Nat) (S : Nat → Row) (w : World)
    (ht : IsRow w ⟨ta, n, tcp, tz⟩) (hw : IsRow w ⟨wa, k, wcp, wz⟩) (hR : IsRows w a k R) (hX : IsRows w ax n X) (hS : IsRows w as_ n S) (hn : n ≤ 65536) (hk : k ≤ 65536)
    (hok : ∀ x, x < k → OKat n ⟨wa, k, wcp, wz⟩ R x) (hXm : ∀ u z, u < n → (z ∈ (X u).zs ↔ inX ⟨wa, k, wcp, wz⟩ k u z)) (hSm : ∀ u z, u < n → (z ∈ (S u).zs ↔ inS R k u [] 0 z)) (hXl : ∀ u, u < n → (X u).len ≤ 200000) (hSl : ∀ u, u < n → (S u).len ≤ 200000) (hRl : ∀ x, x < k → (R x).len ≤ 200000) :
    Calls Try.prog 16 #[.string s, .slice ta n tcp, .slice wa k wcp, .slice a k c, .slice ax n cx, .slice as_ n cs] w (fun e w' => ∃ y : Lay, e = .returned (.pointer (some (ad y.M 0))) ∧ Apart y n k w.heap.size ∧ St w' y n k (Wd ⟨wa, k, wcp, wz⟩ (fun _ => false)) (Hd ⟨wa, k, wcp, wz⟩ R (fun _ => false)) (Rdd R (fun _ => false)) ∧ Below w.heap.size w w') := by
  have m1 : (Instr.makeSlice 46 (.int .i64 n) (.int .i64 n)).run Try.prog w = .ok (.slice (some (ad w.heap.size 0)) n n) (w.alloc (.cells (zeros #[.int .i64 0] n) 49)) := by
    have := run_mk 46 49 _ 1 8 Try.underlying46 I49 n (by omega) (by omega) w
    rw [Nat.mul_one] at this; exact this
  generalize hw1 : w.alloc (.cells (zeros #[.int .i64 0] n) 49) = w1 at *
  have s1 : w1.heap.size = w.heap.size + 1 := by rw [← hw1]; simp
  have m2 := run_mk 47 51 _ 8 80 Try.underlying47 I51 n (by omega) (by omega) w1
  rw [s1] at m2
  generalize hz2 : (Value.agg #[.int .i64 0, .int .i64 0, .int .i64 0, .bool false, .int .i64 0, .int .i64 0, .slice Option.none 0 0, .bool false]).cells = z2 at *
  generalize hw2 : w1.alloc (.cells (zeros z2 (n * 8)) 51) = w2 at *
  have s2 : w2.heap.size = w.heap.size + 2 := by rw [← hw2]; simp; omega
  have m3 := run_mk 48 55 _ 5 88 Try.underlying48 I55 n (by omega) (by omega) w2
  rw [s2] at m3
  generalize hz3 : (Value.agg #[.int .i64 0, .slice Option.none 0 0, .slice Option.none 0 0, .map Option.none, .slice Option.none 0 0]).cells = z3 at *
  generalize hw3 : w2.alloc (.cells (zeros z3 (n * 5)) 55) = w3 at *
  have H0 : Aside (L1 ⟨wa, k, wcp, wz⟩ R n k 0 0 w w3) := by
    have g1 : w.grownBy w1 Option.none := by rw [← hw1]; exact World.grownBy_alloc _ _ _
    have g2 : w1.grownBy w2 Option.none := by rw [← hw2]; exact World.grownBy_alloc _ _ _
    have g3 : w2.grownBy w3 Option.none := by rw [← hw3]; exact World.grownBy_alloc _ _ _
    refine ⟨⟨?_, ?_, ?_, fun u hu => by omega, fun u hu => by omega⟩, ?_, ?_⟩
    · have : Ints w1 w.heap.size n := by rw [← hw1]; exact ints_new w n 49
      exact (this.kept g2 (by simp)).kept g3 (by simp)
    · have : Blk w2 (w.heap.size + 1) (n * 8) := by rw [← hw2, ← s1]; exact blk_new w1 z2 (n * 8) 51
      exact this.kept g3 (by simp)
    · rw [← hw3, ← s2]; exact blk_new w2 z3 (n * 5) 55
    · exact (((Below.refl _ w).grown g1 (Nat.le_refl _) (by simp)).grown g2 (by omega) (by simp)).grown g3 (by omega) (by simp)
    · rw [← hw3]; simp; omega
  have HOK : Hid (∀ x, x < k → OKat n ⟨wa, k, wcp, wz⟩ R x) := hok
  have HXm : Hid (∀ u z, u < n → (z ∈ (X u).zs ↔ inX ⟨wa, k, wcp, wz⟩ k u z)) := hXm
  have HSm : Hid (∀ u z, u < n → (z ∈ (S u).zs ↔ inS R k u [] 0 z)) := hSm
  have HXl : Hid (∀ u, u < n → (X u).len ≤ 200000) := hXl
  have HSl : Hid (∀ u, u < n → (S u).len ≤ 200000) := hSl
  have HRl : Hid (∀ x, x < k → (R x).len ≤ 200000) := hRl
  have HTS : Hid (IsRow w ⟨ta, n, tcp, tz⟩) := ht
  have HW : Hid (IsRow w ⟨wa, k, wcp, wz⟩) := hw
  have HR : Hid (IsRows w a k R) := hR
  have HX : Hid (IsRows w ax n X) := hX
  have HS : Hid (IsRows w as_ n S) := hS
  clear hw1 hw2 hw3 hz2 hz3 s1 s2 hok hXm hSm hXl hSl hRl ht hw hR hX hS
  go_enter Try.func16, Try.ntmps16
  go_wp2_with fail
  go_loopg [18, 19, 21, 23, 66, 78] n (fun gk s18 s19 s21 s23 s66 s78 wx => ∃ i : Nat, s18 = .int .i64 i ∧ i ≤ n ∧ gk = n - i ∧ Aside (L1 ⟨wa, k, wcp, wz⟩ R n k i i w wx))
  case atStart => exact ⟨0, rfl, Nat.zero_le _, rfl, H0⟩
  case round =>
    obtain ⟨i, rfl, hi, hgi, HT⟩ := hrel
    clear H0 m1 m2 m3
    by_cases hlt : i < n
    · obtain ⟨tb, to', hta, htb, htc⟩ := HTS.out.at_ (by show 0 < n; omega)
      dsimp only at hta
      subst hta
      have ct : wr.cell? ⟨tb, to' + i, Option.none⟩ = some (.int .i64 (tz.getD i 0)) := by
        rw [HT.out.2.1.cell (p := ⟨tb, to' + i, Option.none⟩) htb]; exact htc i hlt
      obtain ⟨v1, c1⟩ := HT.out.1.nm.cell i hlt
      have f1 := HT.out.1.nm.froz i hlt
      have htne : tb ≠ w.heap.size := by omega
      obtain ⟨va, ca⟩ := HT.out.1.tx.cell (i * 8) (by omega)
      obtain ⟨vb, cb⟩ := HT.out.1.tx.cell (i * 8 + 1) (by omega)
      obtain ⟨vc, cc⟩ := HT.out.1.tx.cell (i * 8 + 2) (by omega)
      obtain ⟨vd, cd⟩ := HT.out.1.tx.cell (i * 8 + 3) (by omega)
      obtain ⟨ve, ce⟩ := HT.out.1.tx.cell (i * 8 + 4) (by omega)
      obtain ⟨vf, cf⟩ := HT.out.1.tx.cell (i * 8 + 5) (by omega)
      obtain ⟨vg, cg⟩ := HT.out.1.tx.cell (i * 8 + 6) (by omega)
      obtain ⟨vh, ch⟩ := HT.out.1.tx.cell (i * 8 + 7) (by omega)
      have fa := HT.out.1.tx.froz (i * 8) (by omega)
      have fb := HT.out.1.tx.froz (i * 8 + 1) (by omega)
      have fc := HT.out.1.tx.froz (i * 8 + 2) (by omega)
      have fd := HT.out.1.tx.froz (i * 8 + 3) (by omega)
      have fe := HT.out.1.tx.froz (i * 8 + 4) (by omega)
      have ff := HT.out.1.tx.froz (i * 8 + 5) (by omega)
      have fg := HT.out.1.tx.froz (i * 8 + 6) (by omega)
      have fh := HT.out.1.tx.froz (i * 8 + 7) (by omega)
      clear htc
      go_upto_region 9 with fail
      go_cut [] (fun wx => Aside (L1 ⟨wa, k, wcp, wz⟩ R n k i i w wx))
      case first =>
        go_wp2_with fail
        go_meet
        case rel =>
          obtain ⟨h1, h2, h3⟩ := HT.out
          refine ⟨((((((((h1.name i _).txn _ _).txn _ _).txn _ _).txn _ _).txn _ _).txn _ _).txn _ _).txn _ _, ?_, by simpa using h3⟩
          exact ((((((((h2.setCell (Nat.le_refl _) _).setCell (by simp) _).setCell (by simp) _).setCell (by simp) _).setCell (by simp) _).setCell (by simp) _).setCell (by simp) _).setCell (by simp) _).setCell (by simp) _
      case rest =>
        have HC := hcut
        clear hcut HT c1 f1 ca cb cc cd ce cf cg ch fa fb fc fd fe ff fg fh ct
        have mk := run_makeMap (P := Try.prog) 41 wc
        go_upto_region 10 with fail
        go_cut [19, 60] (fun s19 s60 wx => s19 = .map (some (w.heap.size + 3 + i)) ∧ Aside (L1 ⟨wa, k, wcp, wz⟩ R n k i (i + 1) w wx ∧ HeldN wx (w.heap.size + 3 + i) k (hX [] 0) 0))
        case first =>
          go_wp2_with fail
          go_meet
          case rel =>
            obtain ⟨h1, h2, h3⟩ := HC.out
            refine ⟨by rw [h3], ⟨h1.kept (World.grownBy_alloc _ _ Option.none) (by simp), h2.alloc (by omega) _, by simp; omega⟩, ?_⟩
            rw [← h3]; exact (held_new wc k).congr (fun x _ => by simp [hX, among])
        case rest =>
          obtain ⟨rfl, HC2⟩ := hcut
          clear HC mk
          obtain ⟨xb, xo, rfl, hxb, hxc⟩ := HX.out.at_ (by omega)
          obtain ⟨sb, so, rfl, hsb, hsc⟩ := HS.out.at_ (by omega)
          obtain ⟨ra, rl, rc, rz, hRx⟩ := row_eta (X i)
          obtain ⟨qa, ql, qc, qz, hQx⟩ := row_eta (S i)
          have cX : wc.cell? ⟨xb, xo + i, Option.none⟩ = some (.slice ra rl rc) := by
            rw [HC2.out.1.2.1.cell (p := ⟨xb, xo + i, Option.none⟩) hxb, hxc i hlt, hRx]
          have HRX : Hid (IsRow w ⟨ra, rl, rc, rz⟩) := by rw [← hRx]; exact HX.out.rows i hlt
          have HRS : Hid (IsRow w ⟨qa, ql, qc, qz⟩) := by rw [← hQx]; exact HS.out.rows i hlt
          have cS0 : w.cell? ⟨sb, so + i, Option.none⟩ = some (.slice qa ql qc) := by rw [hsc i hlt, hQx]
          have HCS : Hid (w.cell? ⟨sb, so + i, Option.none⟩ = some (.slice qa ql qc)) := cS0
          have hrl : rl ≤ 200000 := by have := HXl.out i hlt; rw [hRx] at this; exact this
          have hql : ql ≤ 200000 := by have := HSl.out i hlt; rw [hQx] at this; exact this
          have HMX : Hid (∀ z, z ∈ rz ↔ inX ⟨wa, k, wcp, wz⟩ k i z) := fun z => by have := HXm.out i z hlt; rw [hRx] at this; exact this
          have HMS : Hid (∀ z, z ∈ qz ↔ inS R k i [] 0 z) := fun z => by have := HSm.out i z hlt; rw [hQx] at this; exact this
          have hrz : rz.length = rl := HRX.out.size
          have hqz : qz.length = ql := HRS.out.size
          have H2 : Aside (L1 ⟨wa, k, wcp, wz⟩ R n k i (i + 1) w wc ∧ HeldN wc (w.heap.size + 3 + i) k (hX rz 0) 0) := ⟨HC2.out.1, HC2.out.2.congr (fun x _ => by simp [hX, among])⟩
          have ii1 : (i : Int) < (n : Int) := by omega
          have ii2 : (0 : Int) ≤ (i : Int) := by omega
          clear HC2 hxc hsc hRx hQx cS0
          go_wp2_with fail
          go_loopg [21, 66] rl (fun gk s21 s66 wx => ∃ j : Nat, s66 = .int .i64 j ∧ j ≤ rl ∧ gk = rl - j ∧ Aside (L1 ⟨wa, k, wcp, wz⟩ R n k i (i + 1) w wx ∧ HeldN wx (w.heap.size + 3 + i) k (hX rz j) j))
          case atStart => exact ⟨0, rfl, Nat.zero_le _, rfl, H2⟩
          case round =>
            obtain ⟨j, rfl, hj, hgj, HJ⟩ := hrel
            clear H2 cX
            by_cases hjl : j < rl
            · obtain ⟨b3, o3, hra, hb3, hc3⟩ := HRX.out.at_ (by show 0 < rl; omega)
              dsimp only at hra
              subst hra
              have hzm : rz.getD j 0 ∈ rz := by
                rw [List.getD_eq_getElem?_getD, List.getElem?_eq_getElem (by omega)]; exact List.getElem_mem _
              obtain ⟨x, hxk, hxe, _⟩ := (HMX.out _).1 hzm
              have cx' : wr.cell? ⟨b3, o3 + j, Option.none⟩ = some (.int .i64 (x : Int)) := by
                rw [HJ.out.1.2.1.cell (p := ⟨b3, o3 + j, Option.none⟩) hb3, ← hxe]; exact hc3 j hjl
              obtain ⟨w5, r5, h5, g5, hs5⟩ := HJ.out.2.put x hxk (by omega) true (by omega)
              have HN : Aside (L1 ⟨wa, k, wcp, wz⟩ R n k i (i + 1) w w5 ∧ HeldN w5 (w.heap.size + 3 + i) k (hX rz (j + 1)) (j + 1)) :=
                ⟨HJ.out.1.turn g5 hs5, h5.congr (fun z _ => hX_next rz j x z (by omega) hxe)⟩
              have r5' : (Instr.mapUpdate 41 (.map (some (w.heap.size + 3 + i))) (.int .i64 x) (.string ⟨#[88]⟩)).run Try.prog wr = .ok () w5 := r5
              clear hzm hxe hc3 h5 g5 hs5 r5
              go_wp2_with fail
              go_roundg (rl - (j + 1))
              case measure => omega
              case rel => exact ⟨j + 1, by go_num, by omega, rfl, HN⟩
            · have hje : rz.length ≤ j := by omega
              have H3 : Aside (L1 ⟨wa, k, wcp, wz⟩ R n k i (i + 1) w wr ∧ HeldN wr (w.heap.size + 3 + i) k (hS rz qz 0) 200000) := by
                obtain ⟨D, nn, hnn, h1, h2⟩ := HJ.out.2
                exact ⟨HJ.out.1, ⟨D, nn, by omega, h1, h2.congr (fun x _ => by simp [hS, hX, among, List.take_of_length_le hje])⟩⟩
              have cS : wr.cell? ⟨sb, so + i, Option.none⟩ = some (.slice qa ql qc) := by
                rw [HJ.out.1.2.1.cell (p := ⟨sb, so + i, Option.none⟩) hsb]; exact HCS.out
              clear HJ
              go_wp2_with fail
              go_loopg [23, 78] ql (fun gk s23 s78 wx => ∃ j : Nat, s78 = .int .i64 j ∧ j ≤ ql ∧ gk = ql - j ∧ Aside (L1 ⟨wa, k, wcp, wz⟩ R n k i (i + 1) w wx ∧ HeldN wx (w.heap.size + 3 + i) k (hS rz qz j) (200000 + j)))
              case atStart => exact ⟨0, rfl, Nat.zero_le _, rfl, H3⟩
              case round =>
                obtain ⟨j', rfl, hj', hgj', HJ⟩ := hrel
                clear H3 cS
                by_cases hjl' : j' < ql
                · obtain ⟨b3, o3, hra, hb3, hc3⟩ := HRS.out.at_ (by show 0 < ql; omega)
                  dsimp only at hra
                  subst hra
                  have hzm : qz.getD j' 0 ∈ qz := by
                    rw [List.getD_eq_getElem?_getD, List.getElem?_eq_getElem (by omega)]; exact List.getElem_mem _
                  obtain ⟨x, hxk, hxe⟩ : ∃ x : Nat, x < k ∧ qz.getD j' 0 = (x : Int) := by
                    obtain ⟨x, h1, h2⟩ := (HMS.out _).1 hzm
                    refine ⟨x, ?_, h1⟩
                    rcases h2 with h2 | h2
                    · exact h2.1
                    · simp [among] at h2
                  have cx' : wr.cell? ⟨b3, o3 + j', Option.none⟩ = some (.int .i64 (x : Int)) := by
                    rw [HJ.out.1.2.1.cell (p := ⟨b3, o3 + j', Option.none⟩) hb3, ← hxe]; exact hc3 j' hjl'
                  obtain ⟨w5, r5, h5, g5, hs5⟩ := HJ.out.2.put x hxk (by omega) false (by omega)
                  have HN : Aside (L1 ⟨wa, k, wcp, wz⟩ R n k i (i + 1) w w5 ∧ HeldN w5 (w.heap.size + 3 + i) k (hS rz qz (j' + 1)) (200000 + (j' + 1))) :=
                    ⟨HJ.out.1.turn g5 hs5, h5.congr (fun z _ => hS_next rz qz j' x z (by omega) hxe)⟩
                  have r5' : (Instr.mapUpdate 41 (.map (some (w.heap.size + 3 + i))) (.int .i64 x) (.string ⟨#[83]⟩)).run Try.prog wr = .ok () w5 := r5
                  clear hzm hxe hc3 h5 g5 hs5 r5
                  go_wp2_with fail
                  go_roundg (ql - (j' + 1))
                  case measure => omega
                  case rel => exact ⟨j' + 1, by go_num, by omega, rfl, HN⟩
                · obtain ⟨va, ca⟩ := HJ.out.1.1.lk.cell (i * 5) (by omega)
                  obtain ⟨vb, cb⟩ := HJ.out.1.1.lk.cell (i * 5 + 1) (by omega)
                  obtain ⟨vc, cc⟩ := HJ.out.1.1.lk.cell (i * 5 + 2) (by omega)
                  obtain ⟨vd, cd⟩ := HJ.out.1.1.lk.cell (i * 5 + 3) (by omega)
                  obtain ⟨ve, ce⟩ := HJ.out.1.1.lk.cell (i * 5 + 4) (by omega)
                  have fa := HJ.out.1.1.lk.froz (i * 5) (by omega)
                  have fb := HJ.out.1.1.lk.froz (i * 5 + 1) (by omega)
                  have fc := HJ.out.1.1.lk.froz (i * 5 + 2) (by omega)
                  have fd := HJ.out.1.1.lk.froz (i * 5 + 3) (by omega)
                  have fe := HJ.out.1.1.lk.froz (i * 5 + 4) (by omega)
                  have HN : Aside (L1 ⟨wa, k, wcp, wz⟩ R n k (i + 1) (i + 1) w (((((wr.setCell (ad (w.heap.size + 2) (i * 5)) (.int .i64 (-1))).setCell (ad (w.heap.size + 2) (i * 5 + 1)) (.slice Option.none 0 0)).setCell (ad (w.heap.size + 2) (i * 5 + 2)) (.slice Option.none 0 0)).setCell (ad (w.heap.size + 2) (i * 5 + 3)) (.map (some (w.heap.size + 3 + i)))).setCell (ad (w.heap.size + 2) (i * 5 + 4)) (.slice Option.none 0 0))) := by
                    obtain ⟨⟨h1, h2, h3⟩, h4⟩ := HJ.out
                    have hh := h4.held.congr (fun x hx => hS_all HOK.out (fun x hx => (HR.out.rows x hx).size) rz qz i HMX.out HMS.out j' (by omega) x hx)
                    refine ⟨C1.next (((((h1.lock _ (by omega) _).lock _ (by omega) _).lock _ (by omega) _).lock _ (by omega) _).lock _ (by omega) _) ?_ ?_, ?_, ?_⟩
                    · rw [World.cell?_setCell_other _ _ _ _ (by simp)]
                      have cd' : (((wr.setCell (ad (w.heap.size + 2) (i * 5)) (.int .i64 (-1))).setCell (ad (w.heap.size + 2) (i * 5 + 1)) (.slice Option.none 0 0)).setCell (ad (w.heap.size + 2) (i * 5 + 2)) (.slice Option.none 0 0)).cell? (ad (w.heap.size + 2) (i * 5 + 3)) = some vd := by
                        rw [World.cell?_setCell_other _ _ _ _ (by simp), World.cell?_setCell_other _ _ _ _ (by simp), World.cell?_setCell_other _ _ _ _ (by simp)]
                        exact cd
                      rw [World.cell?_setCell_same _ _ _ cd']
                    · refine hh.kept ?_
                      rw [Below.heap_setCell _ _ _ _ (by simp; omega), Below.heap_setCell _ _ _ _ (by simp; omega), Below.heap_setCell _ _ _ _ (by simp; omega), Below.heap_setCell _ _ _ _ (by simp; omega), Below.heap_setCell _ _ _ _ (by simp; omega)]
                    · exact ((((h2.setCell (by simp) _).setCell (by simp) _).setCell (by simp) _).setCell (by simp) _).setCell (by simp) _
                    · simpa using h3
                  clear HJ
                  go_wp2_with fail
                  go_roundg (n - (i + 1))
                  case measure => omega
                  case rel => exact ⟨i + 1, by go_num, by omega, rfl, HN⟩
    · obtain rfl : i = n := by omega
      clear HX HS HXm HSm HXl HSl HTS
      have m4 := run_mk 56 60 _ 6 96 Try.underlying56 I60 k (by omega) (by omega) wr
      go_upto_region 22 with fail
      go_cut [24] (fun s24 wx => s24 = .slice (some (ad (w.heap.size + 3 + i) 0)) k k ∧ Aside (L1 ⟨wa, k, wcp, wz⟩ R i k i (i + 1) w wx ∧ Blk wx (w.heap.size + 3 + i) (k * 6)))
      case first =>
        go_wp2_with fail
        go_meet
        case rel =>
          obtain ⟨h1, h2, h3⟩ := HT.out
          refine ⟨by rw [h3], ⟨h1.kept (World.grownBy_alloc _ _ Option.none) (by simp), h2.alloc (by omega) _, by simp; omega⟩, ?_⟩
          rw [← h3]; exact blk_new _ _ _ _
      case rest =>
        obtain ⟨rfl, HC⟩ := hcut
        clear HT m4
        have mk : ∀ w, (Instr.makeSlice 22 (.int .i64 k) (.int .i64 k)).run Try.prog w = .ok (.slice (some (ad w.heap.size 0)) k k) (w.alloc (.cells (zeros #[.int .i64 0] k) 3)) := fun w => by
          have := run_mk 22 3 _ 1 8 Try.underlying22 I3 k (by omega) (by omega) w
          rw [Nat.mul_one] at this; exact this
        go_upto_region 23 with fail
        go_cut [25] (fun s25 wx => ∃ J K O : Nat, s25 = .pointer (some (ad O 0)) ∧ Where i w.heap.size (w.heap.size + 3 + i) J K O ∧ Aside (C2 ⟨wa, k, wcp, wz⟩ R i k w.heap.size (w.heap.size + 3 + i) J K O 0 wx ∧ Below w.heap.size w wx ∧ wx.heap.size = w.heap.size + 3 + i + 4))
        case first =>
          go_region
          all_goals go_wp2_with fail
          all_goals go_meet
          all_goals exact ⟨_, _, _, rfl, C2.start HC.out (al3_g _ _ _ _) (al3_s _ _ _ _) (by first | exact al3_0 _ _ _ _ | exact al3_1 _ _ _ _ | exact al3_2 _ _ _ _) (by first | exact al3_0 _ _ _ _ | exact al3_1 _ _ _ _ | exact al3_2 _ _ _ _) (by first | exact al3_0 _ _ _ _ | exact al3_1 _ _ _ _ | exact al3_2 _ _ _ _) (by omega) (by omega) (by omega)⟩
        case rest =>
          obtain ⟨J, K, O, rfl, HWh, HC4⟩ := hcut
          clear HC mk
          have HWH : Hid (Where i w.heap.size (w.heap.size + 3 + i) J K O) := HWh
          clear HWh
          generalize hI : w.heap.size + 3 + i = I at *
          go_wp2_with fail
          go_loopg [26, 27, 29, 108] k (fun gk s26 s27 s29 s108 wx => ∃ x : Nat, s26 = .int .i64 x ∧ x ≤ k ∧ gk = k - x ∧ Aside (C2 ⟨wa, k, wcp, wz⟩ R i k w.heap.size I J K O x wx ∧ Below w.heap.size w wx ∧ wx.heap.size = I + 4 + x))
          case atStart => exact ⟨0, rfl, Nat.zero_le _, rfl, HC4⟩
          case round =>
            obtain ⟨x, rfl, hx, hgx, HT⟩ := hrel
            clear HC4
            by_cases hxk : x < k
            · have mk := run_makeMap (P := Try.prog) 43 wr
              go_upto_region 27 with fail
              go_cut [27, 102] (fun s27 s102 wx => s27 = .map (some (I + 4 + x)) ∧ Aside ((C2 ⟨wa, k, wcp, wz⟩ R i k w.heap.size I J K O x wx ∧ Below w.heap.size w wx ∧ wx.heap.size = I + 4 + x + 1) ∧ ReadN wx (I + 4 + x) i (rS [] 0) 0))
              case first =>
                go_wp2_with fail
                go_meet
                case rel =>
                  obtain ⟨h1, h2, h3⟩ := HT.out
                  refine ⟨by rw [h3], ⟨h1.kept HWH.out (World.grownBy_alloc _ _ Option.none) (by simp), h2.alloc (by omega) _, by simp; omega⟩, ?_⟩
                  rw [← h3]; exact (read_new wr i).congr (fun x _ => by simp [rS, among])
              case rest =>
                obtain ⟨rfl, HC2⟩ := hcut
                clear HT mk
                obtain ⟨rb, ro, rfl, hrb, hrc⟩ := HR.out.at_ (by omega)
                obtain ⟨wb, wo, hwa, hwb, hwc⟩ := HW.out.at_ (by show 0 < k; omega)
                dsimp only at hwa
                subst hwa
                obtain ⟨ra, rl, rc, rz, hRx⟩ := row_eta (R x)
                have cR : wc.cell? ⟨rb, ro + x, Option.none⟩ = some (.slice ra rl rc) := by
                  rw [HC2.out.1.2.1.cell (p := ⟨rb, ro + x, Option.none⟩) hrb, hrc x hxk, hRx]
                have HRX : Hid (IsRow w ⟨ra, rl, rc, rz⟩) := by rw [← hRx]; exact HR.out.rows x hxk
                have HRx : Hid ((R x).zs = rz) := by show (R x).zs = rz; rw [hRx]
                have hrl : rl ≤ 200000 := by have := HRl.out x hxk; rw [hRx] at this; exact this
                have hrz : rz.length = rl := HRX.out.size
                have HZ : Hid (∀ j, j < rl → 0 ≤ rz.getD j 0 ∧ rz.getD j 0 < i) := by have := (HOK.out x hxk).2.2.2; rw [hRx] at this; exact this
                have HWX : Hid (wz.getD x 0 = Wd ⟨some ⟨wb, wo, Option.none⟩, k, wcp, wz⟩ (fun _ => false) x) := by
                  show wz.getD x 0 = Wd _ _ x
                  have := (HOK.out x hxk).1
                  unfold Wd
                  dsimp only at this ⊢
                  by_cases h0 : 0 ≤ wz.getD x 0
                  · rw [if_pos ⟨h0, rfl⟩]
                  · rw [if_neg (fun h => h0 h.1)]; omega
                have H2 : Aside ((C2 ⟨some ⟨wb, wo, Option.none⟩, k, wcp, wz⟩ R i k w.heap.size I J K O x wc ∧ Below w.heap.size w wc ∧ wc.heap.size = I + 4 + x + 1) ∧ ReadN wc (I + 4 + x) i (rS rz 0) 0) := ⟨HC2.out.1, HC2.out.2.congr (fun x _ => by simp [rS, among])⟩
                have HWC : Hid (w.cell? ⟨wb, wo + x, Option.none⟩ = some (.int .i64 (wz.getD x 0))) := hwc x hxk
                have ix1 : (x : Int) < (k : Int) := by omega
                have ix2 : (0 : Int) ≤ (x : Int) := by omega
                clear HC2 hrc hRx hwc
                go_wp2_with fail
                go_loopg [29, 108] rl (fun gk s29 s108 wx => ∃ j : Nat, s108 = .int .i64 j ∧ j ≤ rl ∧ gk = rl - j ∧ Aside ((C2 ⟨some ⟨wb, wo, Option.none⟩, k, wcp, wz⟩ R i k w.heap.size I J K O x wx ∧ Below w.heap.size w wx ∧ wx.heap.size = I + 4 + x + 1) ∧ ReadN wx (I + 4 + x) i (rS rz j) j))
                case atStart => exact ⟨0, rfl, Nat.zero_le _, rfl, H2⟩
                case round =>
                  obtain ⟨j, rfl, hj, hgj, HJ⟩ := hrel
                  clear H2 cR
                  by_cases hjl : j < rl
                  · obtain ⟨b3, o3, hra, hb3, hc3⟩ := HRX.out.at_ (by show 0 < rl; omega)
                    dsimp only at hra
                    subst hra
                    have hrb' := HZ.out j hjl
                    obtain ⟨r, hr⟩ := Int.eq_ofNat_of_zero_le hrb'.1
                    have hri : r < i := by omega
                    have cx' : wr.cell? ⟨b3, o3 + j, Option.none⟩ = some (.int .i64 (r : Int)) := by
                      rw [HJ.out.1.2.1.cell (p := ⟨b3, o3 + j, Option.none⟩) hb3, ← hr]; exact hc3 j hjl
                    obtain ⟨w5, r5, h5, g5, hs5⟩ := HJ.out.2.put r hri (by omega) (by omega)
                    have HN : Aside ((C2 ⟨some ⟨wb, wo, Option.none⟩, k, wcp, wz⟩ R i k w.heap.size I J K O x w5 ∧ Below w.heap.size w w5 ∧ w5.heap.size = I + 4 + x + 1) ∧ ReadN w5 (I + 4 + x) i (rS rz (j + 1)) (j + 1)) := by
                      obtain ⟨⟨h1, h2, h3⟩, h4⟩ := HJ.out
                      exact ⟨⟨h1.kept HWH.out g5 (by simp), h2.grown g5 (by omega) (by simp; omega), by rw [hs5]; exact h3⟩, h5.congr (fun z _ => rS_next rz j r z (by omega) hr)⟩
                    clear hrb' hr hc3 h5 g5 hs5
                    go_wp2_with fail
                    go_roundg (rl - (j + 1))
                    case measure => omega
                    case rel => exact ⟨j + 1, by go_num, by omega, rfl, HN⟩
                  · obtain ⟨va, ca⟩ := HJ.out.1.1.it.cell (x * 6) (by omega)
                    obtain ⟨vb, cb⟩ := HJ.out.1.1.it.cell (x * 6 + 1) (by omega)
                    obtain ⟨vc, cc⟩ := HJ.out.1.1.it.cell (x * 6 + 2) (by omega)
                    obtain ⟨vd, cd⟩ := HJ.out.1.1.it.cell (x * 6 + 3) (by omega)
                    obtain ⟨ve, ce⟩ := HJ.out.1.1.it.cell (x * 6 + 4) (by omega)
                    obtain ⟨vf, cf⟩ := HJ.out.1.1.it.cell (x * 6 + 5) (by omega)
                    have fa := HJ.out.1.1.it.froz (x * 6) (by omega)
                    have fb := HJ.out.1.1.it.froz (x * 6 + 1) (by omega)
                    have fc := HJ.out.1.1.it.froz (x * 6 + 2) (by omega)
                    have fd := HJ.out.1.1.it.froz (x * 6 + 3) (by omega)
                    have fe := HJ.out.1.1.it.froz (x * 6 + 4) (by omega)
                    have ff := HJ.out.1.1.it.froz (x * 6 + 5) (by omega)
                    have cw : wr.cell? ⟨wb, wo + x, Option.none⟩ = some (.int .i64 (wz.getD x 0)) := by
                      rw [HJ.out.1.2.1.cell (p := ⟨wb, wo + x, Option.none⟩) hwb]; exact HWC.out
                    obtain ⟨vj, cj⟩ := HJ.out.1.1.jj.cell x hxk
                    have fj := HJ.out.1.1.jj.froz x hxk
                    obtain ⟨vk, ck⟩ := HJ.out.1.1.kk.cell x hxk
                    have fk := HJ.out.1.1.kk.froz x hxk
                    have co0 := HJ.out.1.1.o0
                    have co1 := HJ.out.1.1.o1
                    have n1 : J ≠ I := by have := HWH.out.j; omega
                    have n2 : K ≠ I := by have := HWH.out.k; omega
                    have n3 : O ≠ I := by have := HWH.out.o; omega
                    have n4 : J ≠ K := HWH.out.jk
                    have n5 : J ≠ O := HWH.out.jo
                    have n6 : K ≠ O := HWH.out.ko
                    have n4' : K ≠ J := HWH.out.jk.symm
                    have n5' : O ≠ J := HWH.out.jo.symm
                    have n6' : O ≠ K := HWH.out.ko.symm
                    generalize hzx : wz.getD x 0 = zx at *
                    have HN : Aside (C2 ⟨some ⟨wb, wo, Option.none⟩, k, wcp, wz⟩ R i k w.heap.size I J K O (x + 1) ((((((((wr.setCell (ad I (x * 6)) (.int .i64 zx)).setCell (ad I (x * 6 + 1)) (.map (some (I + 4 + x)))).setCell (ad I (x * 6 + 2)) (.slice Option.none 0 0)).setCell (ad I (x * 6 + 3)) (.slice Option.none 0 0)).setCell (ad I (x * 6 + 4)) (.slice Option.none 0 0)).setCell (ad I (x * 6 + 5)) (.bool false)).setCell (ad J x) (.int .i64 x)).setCell (ad K x) (.int .i64 x)) ∧
                        Below w.heap.size w ((((((((wr.setCell (ad I (x * 6)) (.int .i64 zx)).setCell (ad I (x * 6 + 1)) (.map (some (I + 4 + x)))).setCell (ad I (x * 6 + 2)) (.slice Option.none 0 0)).setCell (ad I (x * 6 + 3)) (.slice Option.none 0 0)).setCell (ad I (x * 6 + 4)) (.slice Option.none 0 0)).setCell (ad I (x * 6 + 5)) (.bool false)).setCell (ad J x) (.int .i64 x)).setCell (ad K x) (.int .i64 x)) ∧
                        ((((((((wr.setCell (ad I (x * 6)) (.int .i64 zx)).setCell (ad I (x * 6 + 1)) (.map (some (I + 4 + x)))).setCell (ad I (x * 6 + 2)) (.slice Option.none 0 0)).setCell (ad I (x * 6 + 3)) (.slice Option.none 0 0)).setCell (ad I (x * 6 + 4)) (.slice Option.none 0 0)).setCell (ad I (x * 6 + 5)) (.bool false)).setCell (ad J x) (.int .i64 x)).setCell (ad K x) (.int .i64 x)).heap.size = I + 4 + (x + 1)) := by
                      obtain ⟨⟨h1, h2, h3⟩, h4⟩ := HJ.out
                      have W := HWH.out
                      have wj := W.j
                      have wk := W.k
                      refine ⟨C2.next ((((((((h1.item W _ (by omega) _).item W _ (by omega) _).item W _ (by omega) _).item W _ (by omega) _).item W _ (by omega) _).item W _ (by omega) _).ord W J (.inl rfl) x (Nat.le_refl _) _).ord W K (.inr rfl) x (Nat.le_refl _) _) ?_ ?_ ?_ ?_ ?_ ?_ ?_ ?_, ?_, ?_⟩
                      · rw [← HWX.out]; simp [World.cell?_setCell_same _ _ _ ca, World.cell?_setCell_other, n1, n2, n1.symm, n2.symm]
                      · simp [World.cell?_setCell_other, n1, n2, n1.symm, n2.symm]
                        exact World.cell?_setCell_same _ _ _ (show _ = some vb by simp [World.cell?_setCell_other, cb])
                      · simp [World.cell?_setCell_other, n1, n2, n1.symm, n2.symm]
                        exact World.cell?_setCell_same _ _ _ (show _ = some vc by simp [World.cell?_setCell_other, cc])
                      · simp [World.cell?_setCell_other, n1, n2, n1.symm, n2.symm]
                        exact World.cell?_setCell_same _ _ _ (show _ = some vd by simp [World.cell?_setCell_other, cd])
                      · simp [World.cell?_setCell_other, n1, n2, n1.symm, n2.symm]
                        exact World.cell?_setCell_same _ _ _ (show _ = some ve by simp [World.cell?_setCell_other, ce])
                      · simp [World.cell?_setCell_other, n1, n2, n1.symm, n2.symm]
                        exact World.cell?_setCell_same _ _ _ (show _ = some vf by simp [World.cell?_setCell_other, cf])
                      · refine (h4.read.congr (fun u _ => rS_all R x rz HRx.out j u (by omega))).kept ?_
                        rw [Below.heap_setCell _ _ _ _ (by first | omega | (simp; omega)), Below.heap_setCell _ _ _ _ (by first | omega | (simp; omega)), Below.heap_setCell _ _ _ _ (by first | omega | (simp; omega)), Below.heap_setCell _ _ _ _ (by first | omega | (simp; omega)), Below.heap_setCell _ _ _ _ (by first | omega | (simp; omega)), Below.heap_setCell _ _ _ _ (by first | omega | (simp; omega)), Below.heap_setCell _ _ _ _ (by first | omega | (simp; omega)), Below.heap_setCell _ _ _ _ (by first | omega | (simp; omega))]
                      · exact World.cell?_setCell_same _ _ _ (show _ = some (.int .i64 vk) by simp [World.cell?_setCell_other, n1, n2, n4, n1.symm, n2.symm, n4.symm, ck])
                      · exact (((((((h2.setCell (by first | omega | (simp; omega)) _).setCell (by first | omega | (simp; omega)) _).setCell (by first | omega | (simp; omega)) _).setCell (by first | omega | (simp; omega)) _).setCell (by first | omega | (simp; omega)) _).setCell (by first | omega | (simp; omega)) _).setCell (by first | omega | (simp; omega)) _).setCell (by first | omega | (simp; omega)) _
                      · simp; omega
                    clear HJ
                    go_wp2_with fail
                    go_roundg (k - (x + 1))
                    case measure => omega
                    case rel => exact ⟨x + 1, by go_num, by omega, rfl, HN⟩
            · obtain rfl : x = k := by omega
              have mk : ∀ w, (Instr.makeSlice 62 (.int .i64 x) (.int .i64 x)).run Try.prog w = .ok (.slice (some (ad w.heap.size 0)) x x) (w.alloc (.cells (zeros #[.string ⟨#[]⟩] x) 9)) := fun w => by
                have := run_mk 62 9 _ 1 16 Try.underlying62 I9 x (by omega) (by omega) w
                rw [Nat.mul_one] at this; exact this
              have co0 := HT.out.1.o0
              have co1 := HT.out.1.o1
              have colt := HT.out.1.olt
              have n3 : O ≠ wr.heap.size := by omega
              go_upto_region 36 with fail
              go_region
              all_goals go_wp2_with fail
              go_ret
              have HF := C2.finish (C8 := #[Value.iface 27 (Value.pointer (some { block := wr.heap.size + 1 + 1, off := 0 })), Value.slice Option.none 0 0,
                Value.slice (some (ad w.heap.size 0)) i i, Value.slice (some (ad wr.heap.size 0)) x x,
                Value.slice Option.none 0 0, Value.slice Option.none 0 0, Value.slice Option.none 0 0, Value.bool false, Value.pointer Option.none,
                Value.slice (some (ad (w.heap.size + 1) 0)) i i, Value.slice (some (ad J 0)) x x,
                Value.slice (some (ad K 0)) x x, Value.int IntKind.i64 0, Value.slice Option.none 0 0,
                Value.func (Fn.func 22) #[] #[], Value.bool false])
                (C9 := #[Value.pointer (some { block := wr.heap.size + 1, off := 0 }), Value.string { data := #[] }, Value.string s,
            Value.slice (some (ad (w.heap.size + 2) 0)) i i, Value.slice (some (ad I 0)) x x, Value.slice Option.none 0 0,
            Value.slice Option.none 0 0, Value.nilFunc, Value.slice Option.none 0 0, Value.int IntKind.i64 0, Value.slice Option.none 0 0,
            Value.int IntKind.i64 0, Value.int IntKind.i64 0, Value.nilFunc, Value.slice Option.none 0 0,
            Value.int IntKind.i64 0, Value.slice Option.none 0 0, Value.int IntKind.i64 0, Value.int IntKind.i64 0])
                rfl HT.out.1 HWH.out HT.out.2.1 HT.out.2.2 (al3_g _ _ _ _) (al3_s _ _ _ _) (al3_0 _ _ _ _) (al3_1 _ _ _ _) (al3_2 _ _ _ _) rfl rfl rfl rfl rfl rfl rfl rfl rfl
              obtain ⟨y, hy, hA, hSt, hB⟩ := HF
              exact ⟨y, by rw [hy]; rfl, hA, hSt, hB⟩

end Go.Proofs.Qxb6615850a
