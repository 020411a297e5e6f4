import Derived.Test.Qxb6615850aRel
namespace Go.Proofs.Qxb6615850a
open Go.RowKit
set_option linter.unusedVariables false

/-- The world when the first i of ys have been released. -/
structure Rw (y : Lay) (n k B g t : Nat) (Wf : Nat → Int) (H : Nat → Nat → Option Bool) (Rd : Nat → Nat → Option Unit) (ys : List Int) (w : World) (i : Nat) (wx : World) : Prop where
  row : Rowz wx g ys
  st : St wx y n k (Wp Wf H t (among (ys.take i))) (Hp H t (among (ys.take i))) (Rp Rd H t (among (ys.take i)))
  low : Below B w wx
  big : B ≤ wx.heap.size

theorem Rw.grown {y : Lay} {n k B g t : Nat} {Wf : Nat → Int} {H : Nat → Nat → Option Bool} {Rd : Nat → Nat → Option Unit} {ys : List Int} {w : World} {i : Nat} {wx w' : World} (h : Rw y n k B g t Wf H Rd ys w i wx) (hg : wx.grownBy w' Option.none) : Rw y n k B g t Wf H Rd ys w i w' where
  row := h.row.kept hg (by simp)
  st := h.st.grown hg
  low := h.low.grown hg h.big (by simp)
  big := Nat.le_trans h.big hg.size

/-- One lock released: the lists' side. -/
theorem Rw.step {y : Lay} {n k B g t : Nat} {Wf : Nat → Int} {H : Nat → Nat → Option Bool} {Rd : Nat → Nat → Option Unit} {ys : List Int} {w : World} {i x : Nat} {wx : World} (A : Apart y n k B)
    (hgh : ∀ u, u < n → y.hb u ≠ g) (hgr : ∀ x, x < k → y.rb x ≠ g) (hgi : y.IB ≠ g)
    (h : Rw y n k B g t Wf H Rd ys w i wx) (hi : i < ys.length) (hx : ys.getD i 0 = (x : Int)) (hxk : x < k) (ht : t < n) (hn : n ≤ 65536) (hk : k ≤ 65536) (hnot : among (ys.take i) x = false) (m : Bool) (hm : H t x = some m) (ty1 ty2 : TypeId) :
    ∃ w1, (Builtin.delete_ #[41, 3] ty1 #[.map (some (y.hb t)), .int .i64 x]).run Try.prog wx = .ok (.tuple #[]) w1 ∧ Fixed w1 y n k ∧ w1.cell? (ad y.IB (x * 6)) = some (.int .i64 (Wp Wf H t (among (ys.take i)) x)) ∧
      (m = true → Rw y n k B g t Wf H Rd ys w (i + 1) (w1.setCell (ad y.IB (x * 6)) (.int .i64 (-1)))) ∧
      (m = false → ∃ w2, (Builtin.delete_ #[43, 3] ty2 #[.map (some (y.rb x)), .int .i64 t]).run Try.prog w1 = .ok (.tuple #[]) w2 ∧ Rw y n k B g t Wf H Rd ys w (i + 1) w2) := by
  obtain ⟨w1, r1, S1, g1⟩ := h.st.dropHeld A t x ht hxk (by omega) ty1
  have hd : ∀ z, among (ys.take (i + 1)) z = if z = x then true else among (ys.take i) z := fun z => by
    rw [among_succ ys i z hi, hx]
    by_cases e : z = x
    · subst e; simp
    · have : decide ((x : Int) = (z : Int)) = false := by simp; omega
      rw [this, Bool.or_false, if_neg e]
  have eH : ∀ u z, (if u = t ∧ z = x then Option.none else Hp H t (among (ys.take i)) u z) = Hp H t (among (ys.take (i + 1))) u z := fun u z => by
    unfold Hp
    rw [hd z]
    by_cases e : z = x
    · subst e
      by_cases e2 : u = t <;> simp [e2]
    · simp [e]
  have lo1 : Below B w w1 := h.low.grown g1 h.big (by simp; exact A.bh t ht)
  have b1 : B ≤ w1.heap.size := Nat.le_trans h.big g1.size
  have row1 := h.row.kept g1 (by simp; exact fun e => hgh t ht e.symm)
  refine ⟨w1, r1, S1.fixed, S1.wr x hxk, fun hm1 => ?_, fun hm1 => ?_⟩
  · subst hm1
    obtain ⟨S2, g2⟩ := S1.setWriter A x hxk (-1)
    refine ⟨row1.kept g2 (by simp; exact fun e => hgi e.symm), ?_, lo1.grown g2 b1 (by simp; exact A.bi), Nat.le_trans b1 g2.size⟩
    refine S2.congr (fun z _ => ?_) (fun u z _ _ => eH u z) (fun z u _ _ => ?_)
    · unfold Wp
      rw [hd z]
      by_cases e : z = x
      · subst e; simp [hm]
      · simp [e]
    · unfold Rp
      rw [hd z]
      by_cases e : z = x
      · subst e; simp [hm]
      · simp [e]
  · subst hm1
    obtain ⟨w2, r2, S2, g2⟩ := S1.dropRead A x t hxk ht (by omega) ty2
    refine ⟨w2, r2, row1.kept g2 (by simp; exact fun e => hgr x hxk e.symm), ?_, lo1.grown g2 b1 (by simp; exact A.br x hxk), Nat.le_trans b1 g2.size⟩
    refine S2.congr (fun z _ => ?_) (fun u z _ _ => eH u z) (fun z u _ _ => ?_)
    · unfold Wp
      rw [hd z]
      by_cases e : z = x
      · subst e; simp [hm]
      · simp [e]
    · unfold Rp
      rw [hd z]
      by_cases e : z = x
      · subst e
        by_cases e2 : u = t <;> simp [hm, e2]
      · simp [e]

theorem not_before {ys : List Int} (hnd : ys.Nodup) (i x : Nat) (hi : i < ys.length) (hx : ys.getD i 0 = (x : Int)) : among (ys.take i) x = false := by
  rw [Bool.eq_false_iff]
  intro h
  unfold among at h
  rw [List.any_eq_true] at h
  obtain ⟨z, hz, he⟩ := h
  have he := of_decide_eq_true he
  subst he
  obtain ⟨j, hj, hje⟩ := List.getElem_of_mem hz
  rw [List.length_take] at hj
  rw [List.getElem_take] at hje
  rw [List.getD_eq_getElem?_getD, List.getElem?_eq_getElem hi] at hx
  simp only [Option.getD_some] at hx
  exact (List.pairwise_iff_getElem.1 hnd) j i (by omega) hi (by omega) (hje.trans hx.symm)

set_option maxRecDepth 100000 in
set_option maxHeartbeats 8000000 in
theorem release_any (y : Lay) (n k B g cap t : Nat) (Wf : Nat → Int) (H : Nat → Nat → Option Bool) (Rd : Nat → Nat → Option Unit) (ys : List Int) (w : World) (A : Apart y n k B) (S : St w y n k Wf H Rd) (hB : B ≤ w.heap.size) (hBg : B ≤ g)
    (hrow : Rowz w g ys) (hgf : g ∉ y.fix) (hgh : ∀ u, u < n → y.hb u ≠ g) (hgr : ∀ x, x < k → y.rb x ≠ g) (ht : t < n) (hn : n ≤ 65536) (hk : k ≤ 65536) (hnd : ys.Nodup) (hlen : ys.length ≤ 65536)
    (hys : ∀ z, z ∈ ys ↔ ∃ x : Nat, x < k ∧ z = (x : Int) ∧ (H t x).isSome = true) :
    Calls Try.prog 23 #[.pointer (some (ad y.M 0)), .int .i64 t, .slice (some (ad g 0)) ys.length cap] w fun e w' => e = .returned (.tuple #[]) ∧
      St w' y n k (Wp Wf H t (fun x => (H t x).isSome)) (Hp H t (fun x => (H t x).isSome)) (Rp Rd H t (fun x => (H t x).isSome)) ∧ Below B w w' := by
  have h1 := S.fixed.mS
  have h2 := S.fixed.sJ
  have h3 := S.fixed.sR
  have HS : Hid (St w y n k Wf H Rd) := S
  have HA : Hid (Apart y n k B) := A
  have hgR : y.RB ≠ g := fun e => hgf (e ▸ (by simp [Lay.fix]))
  have hgI : y.IB ≠ g := fun e => hgf (e ▸ (by simp [Lay.fix]))
  have C := cmp_ok (.slice (some (ad y.JB 0)) k k) g y.RB k w.heap.size hk hrow.lt hgR rfl
  have HC : Hid (Calls Try.prog 26 #[.slice (some ⟨g, 0, Option.none⟩) ys.length cap, .func (.func 27) #[.agg #[.slice (some (ad y.JB 0)) k k, .slice (some (ad y.RB 0)) k k]] #[]] w fun e w' => e = .returned (.tuple #[]) ∧ ∃ d', Perms g (RankEnv y.RB k w.heap.size) w ys w' d') :=
    sortFunc g w.heap.size cap _ _ _ C ys w hrow ⟨S.fixed.lt _ (by simp [Lay.fix]), Nat.le_refl _, S.fixed.rank⟩ (by omega) (fun z hz => by
      obtain ⟨x, hx, rfl, _⟩ := (hys z).1 hz
      omega)
  have HGH : Hid (∀ u, u < n → y.hb u ≠ g) := hgh
  have HGR : Hid (∀ x, x < k → y.rb x ≠ g) := hgr
  have HYS : Hid (∀ z, z ∈ ys ↔ ∃ x : Nat, x < k ∧ z = (x : Int) ∧ (H t x).isSome = true) := hys
  have HND : Hid ys.Nodup := hnd
  have HGF : Hid (g ∉ y.fix) := hgf
  clear S A C hgh hgr hys hnd hrow hgf
  go_enter Try.func23, Try.ntmps23
  go_wp2_with fail
  refine HC.out.mono ?_
  rintro e w1 ⟨rfl, ys', hP⟩
  have hlen' : ys'.length = ys.length := hP.len
  have HP : Aside (Perms g (RankEnv y.RB k w.heap.size) w ys w1 ys') := hP
  have S1 : Hid (St w1 y n k Wf H Rd) := HS.out.row hP.grown HGF.out HGH.out HGR.out
  have F1 := S1.out.fixed.mL
  have HR0 : Aside (Rw y n k B g t Wf H Rd ys' w 0 w1) := ⟨hP.row, S1.out.congr (fun x _ => by simp [Wp, among]) (fun u x _ _ => by simp [Hp, among]) (fun x u _ _ => by simp [Rp, among]), (Below.refl B w).grown hP.grown hB (by simp; exact hBg), Nat.le_trans hB hP.grown.size⟩
  have HNF : Hid (ys'.Nodup) := hP.perm.nodup_iff.2 HND.out
  have HMF : Hid (∀ z, z ∈ ys' ↔ ∃ x : Nat, x < k ∧ z = (x : Int) ∧ (H t x).isSome = true) := fun z => hP.perm.mem_iff.trans (HYS.out z)
  clear hP h1 h2 h3 HC
  go_wp2_with fail
  generalize ys.length = L at *
  go_loopg [8, 9, 10, 29] L (fun gk s8 s9 s10 s29 wx => ∃ i : Nat, s29 = .int .i64 i ∧ i ≤ L ∧ gk = L - i ∧ Aside (Rw y n k B g t Wf H Rd ys' w i wx))
  case atStart => exact ⟨0, rfl, Nat.zero_le _, rfl, HR0⟩
  case round =>
    obtain ⟨i, rfl, hi, hgi, HR⟩ := hrel
    clear HR0 S1 F1 HP
    by_cases hil : i < L
    · have hzm : ys'.getD i 0 ∈ ys' := by
        rw [List.getD_eq_getElem?_getD, List.getElem?_eq_getElem (by omega)]; exact List.getElem_mem _
      obtain ⟨x, hxk, hxe, hxs⟩ := (HMF.out _).1 hzm
      obtain ⟨m, hm⟩ := Option.isSome_iff_exists.1 hxs
      have cx := HR.out.row.cell i (by omega)
      rw [hxe] at cx
      have hnot := not_before HNF.out i x (by omega) hxe
      have HHm : Hid (Hp H t (among (ys'.take i)) t x = some m) := by
        show Hp H t (among (ys'.take i)) t x = some m
        unfold Hp; rw [hnot]; simp [hm]
      have f1 := HR.out.st.fixed.hold t ht
      have f2 := HR.out.st.fixed.mI
      have lk : ∀ q, (Instr.lookup 41 (.map (some (y.hb t))) (.int .i64 x) false).run Try.prog (wr.drewN q) = .ok (.string (mdb m)) (wr.drewN q) := fun q =>
        HeldM.get (w := wr.drewN q) ((HR.out.st.held t ht).kept rfl) x hxk (by omega) m HHm.out
      have i1 : (x : Int) < (k : Int) := by omega
      have i2 : (0 : Int) ≤ (x : Int) := by omega
      have i3 : (i : Int) < (L : Int) := by omega
      have HXE : Hid (ys'.getD i 0 = (x : Int)) := hxe
      have HM : Hid (H t x = some m) := hm
      have HNO : Hid (among (ys'.take i) x = false) := hnot
      generalize hsm : mdb m = sm at *
      clear hzm hxe hxs hm hnot
      go_upto_region 5 with fail
      go_cut [9, 10] (fun s9 s10 wx => s9 = .string sm ∧ s10 = .pointer (some (ad y.IB (x * 6))) ∧ wr.grownBy wx Option.none)
      case first =>
        go_quiet (fail)
        go_wp2_with fail
        go_meet
        case rel => exact ⟨rfl, rfl, ⟨rfl, rfl, rfl, Nat.le_refl _, fun _ _ _ => rfl⟩⟩
      case rest =>
        obtain ⟨rfl, rfl, hg0⟩ := hcut
        have HRc : Aside (Rw y n k B g t Wf H Rd ys' w i wc) := HR.out.grown hg0
        clear HR lk cx f1 f2 hg0
        have f1 := HRc.out.st.fixed.hold t ht
        obtain ⟨w1, r1, F1, c1, kT, kF⟩ := HRc.out.step HA.out HGH.out HGR.out hgI (by omega) HXE.out hxk ht hn hk HNO.out m HM.out 0 0
        have f3 := F1.read x hxk
        have f4 := F1.fz x hxk
        have HF1 : Hid (Fixed w1 y n k) := F1
        clear F1
        cases m with
        | true =>
            have KT := kT rfl
            have hsm' : sm = ⟨#[88]⟩ := hsm.symm
            subst hsm'
            clear kT kF hsm
            have HW2 : Aside (Rw y n k B g t Wf H Rd ys' w (i + 1) (w1.setCell (ad y.IB (x * 6)) (.int .i64 (-1)))) := KT
            have FW2 : Hid (Fixed (w1.setCell (ad y.IB (x * 6)) (.int .i64 (-1))) y n k) := HW2.out.st.fixed
            go_wp2_with fail
            refine (note_any y n k x _ FW2.out hxk hk).mono ?_
            rintro e w3 ⟨rfl, hg3⟩
            have HW3 : Aside (Rw y n k B g t Wf H Rd ys' w (i + 1) w3) := HW2.out.grown hg3
            have FW3 : Hid (Fixed w3 y n k) := HW3.out.st.fixed
            clear HW2 FW2 hg3 HRc KT r1 c1 f1 f3 f4 HF1
            have d1 := FW3.out.mS
            have d2 := FW3.out.sN
            have d3 := FW3.out.sZ
            obtain ⟨zt, d4⟩ := FW3.out.name t ht
            obtain ⟨zs, d5⟩ := FW3.out.item x hxk
            have t1 : (t : Int) < (n : Int) := by omega
            have t2 : (0 : Int) ≤ (t : Int) := by omega
            have HE : Hid (∀ w, Fixed w y n k → Calls Try.prog 29 #[.pointer (some (ad y.S 0)), .agg #[.string ⟨#[114, 101, 108, 101, 97, 115, 101, 115]⟩, .int .i64 zt, .string ⟨#[88]⟩, .string zs, .string ⟨#[]⟩, .int .i64 0, .string ⟨#[]⟩, .slice Option.none 0 0, .slice Option.none 0 0, .int .i64 0, .int .i64 0, .int .i64 0]] w fun e w' => e = .returned (.tuple #[]) ∧ w.grownBy w' Option.none) := fun w F => emit_any y n k zt ⟨#[88]⟩ zs w F
            go_wp2_with fail
            go_region_held3 (fun w' => w'.cell? (ad y.M 0) = some (.pointer (some (ad y.S 0))) ∧ w'.cell? (ad y.S 2) = some (.slice (some (ad y.NB 0)) n n) ∧ w'.cell? (ad y.S 3) = some (.slice (some (ad y.ZB 0)) k k) ∧ w'.cell? (ad y.NB t) = some (.int .i64 zt) ∧ w'.cell? (ad y.ZB x) = some (.string zs) ∧ w3.grownBy w' Option.none)
              (first | exact ⟨d1, d2, d3, d4, d5, ⟨rfl, rfl, rfl, Nat.le_refl _, fun _ _ _ => rfl⟩⟩ | (go_split_ands; exact ⟨hg5.cell (by assumption) (by simp), hg5.cell (by assumption) (by simp), hg5.cell (by assumption) (by simp), hg5.cell (by assumption) (by simp), hg5.cell (by assumption) (by simp), grownBy.tr (by assumption) hg5⟩) | go_keep)
              (first | (go_at_call 29; refine (HE.out _ (FW3.out.grown (by go_split_ands; assumption))).mono ?_; rintro e w5 ⟨rfl, hg5⟩))
            have hg6 : w3.grownBy w5 Option.none := by go_split_ands; assumption
            have HW5 : Aside (Rw y n k B g t Wf H Rd ys' w (i + 1) w5) := HW3.out.grown hg6
            clear hg6 HW3 FW3 d1 d2 d3 d4 d5 HE
            go_wp2_with fail
            go_roundg (L - (i + 1))
            case measure => omega
            case rel => exact ⟨i + 1, by go_num, by omega, rfl, HW5⟩
        | false =>
            obtain ⟨w2, r2, KT⟩ := kF rfl
            have hsm' : sm = ⟨#[83]⟩ := hsm.symm
            subst hsm'
            clear kT kF hsm
            have HW2 : Aside (Rw y n k B g t Wf H Rd ys' w (i + 1) w2) := KT
            have FW2 : Hid (Fixed w2 y n k) := HW2.out.st.fixed
            go_wp2_with fail
            refine (note_any y n k x _ FW2.out hxk hk).mono ?_
            rintro e w3 ⟨rfl, hg3⟩
            have HW3 : Aside (Rw y n k B g t Wf H Rd ys' w (i + 1) w3) := HW2.out.grown hg3
            have FW3 : Hid (Fixed w3 y n k) := HW3.out.st.fixed
            clear HW2 FW2 hg3 HRc KT r1 r2 c1 f1 f3 f4 HF1
            have d1 := FW3.out.mS
            have d2 := FW3.out.sN
            have d3 := FW3.out.sZ
            obtain ⟨zt, d4⟩ := FW3.out.name t ht
            obtain ⟨zs, d5⟩ := FW3.out.item x hxk
            have t1 : (t : Int) < (n : Int) := by omega
            have t2 : (0 : Int) ≤ (t : Int) := by omega
            have HE : Hid (∀ w, Fixed w y n k → Calls Try.prog 29 #[.pointer (some (ad y.S 0)), .agg #[.string ⟨#[114, 101, 108, 101, 97, 115, 101, 115]⟩, .int .i64 zt, .string ⟨#[83]⟩, .string zs, .string ⟨#[]⟩, .int .i64 0, .string ⟨#[]⟩, .slice Option.none 0 0, .slice Option.none 0 0, .int .i64 0, .int .i64 0, .int .i64 0]] w fun e w' => e = .returned (.tuple #[]) ∧ w.grownBy w' Option.none) := fun w F => emit_any y n k zt ⟨#[83]⟩ zs w F
            go_wp2_with fail
            go_region_held3 (fun w' => w'.cell? (ad y.M 0) = some (.pointer (some (ad y.S 0))) ∧ w'.cell? (ad y.S 2) = some (.slice (some (ad y.NB 0)) n n) ∧ w'.cell? (ad y.S 3) = some (.slice (some (ad y.ZB 0)) k k) ∧ w'.cell? (ad y.NB t) = some (.int .i64 zt) ∧ w'.cell? (ad y.ZB x) = some (.string zs) ∧ w3.grownBy w' Option.none)
              (first | exact ⟨d1, d2, d3, d4, d5, ⟨rfl, rfl, rfl, Nat.le_refl _, fun _ _ _ => rfl⟩⟩ | (go_split_ands; exact ⟨hg5.cell (by assumption) (by simp), hg5.cell (by assumption) (by simp), hg5.cell (by assumption) (by simp), hg5.cell (by assumption) (by simp), hg5.cell (by assumption) (by simp), grownBy.tr (by assumption) hg5⟩) | go_keep)
              (first | (go_at_call 29; refine (HE.out _ (FW3.out.grown (by go_split_ands; assumption))).mono ?_; rintro e w5 ⟨rfl, hg5⟩))
            have hg6 : w3.grownBy w5 Option.none := by go_split_ands; assumption
            have HW5 : Aside (Rw y n k B g t Wf H Rd ys' w (i + 1) w5) := HW3.out.grown hg6
            clear hg6 HW3 FW3 d1 d2 d3 d4 d5 HE
            go_wp2_with fail
            go_roundg (L - (i + 1))
            case measure => omega
            case rel => exact ⟨i + 1, by go_num, by omega, rfl, HW5⟩
    · obtain rfl : i = L := by omega
      have HE : Aside (St wr y n k (Wp Wf H t (fun x => (H t x).isSome)) (Hp H t (fun x => (H t x).isSome)) (Rp Rd H t (fun x => (H t x).isSome)) ∧ Below B w wr) := by
        refine ⟨?_, HR.out.low⟩
        have hd : ∀ x, x < k → among (ys'.take i) x = (H t x).isSome := fun x hx => by
          rw [List.take_of_length_le (by omega)]
          have : among ys' x = true ↔ (H t x).isSome = true := by
            unfold among
            rw [List.any_eq_true]
            constructor
            · rintro ⟨z, hz, he⟩
              have he := of_decide_eq_true he
              subst he
              obtain ⟨x', _, he', hs⟩ := (HMF.out _).1 hz
              obtain rfl : x = x' := by omega
              exact hs
            · intro hs
              exact ⟨x, (HMF.out _).2 ⟨x, hx, rfl, hs⟩, by simp⟩
          exact Bool.eq_iff_iff.2 this
        refine HR.out.st.congr (fun x hx => ?_) (fun u x _ hx => ?_) (fun x u hx _ => ?_)
        · unfold Wp; rw [hd x hx]
        · unfold Hp; rw [hd x hx]
        · unfold Rp; rw [hd x hx]
      clear HR
      go_wp2_with fail
      go_end0
      exact ⟨rfl, HE.out.1, HE.out.2⟩

set_option maxRecDepth 100000 in
set_option maxHeartbeats 4000000 in
/-- .. of no lock. -/
theorem release_nil (y : Lay) (n k t : Nat) (w : World) (F : Fixed w y n k) (ht : t < n) (hn : n ≤ 65536) :
    Calls Try.prog 23 #[.pointer (some (ad y.M 0)), .int .i64 t, .slice Option.none 0 0] w fun e w' => e = .returned (.tuple #[]) ∧ w' = w := by
  have h1 := F.mS
  have h2 := F.sJ
  have h3 := F.sR
  have h4 := F.mL
  clear F
  go_enter Try.func23, Try.ntmps23
  go_wp2_with fail
  refine (sortNil _ _).mono ?_
  rintro e w1 ⟨rfl, rfl⟩
  go_wp2_with fail
  refine wp_loop_rounds 1 ?_
  rw [rounds_succ]
  go_wp2_with fail
  go_end0
  exact ⟨rfl, rfl⟩

end Go.Proofs.Qxb6615850a
