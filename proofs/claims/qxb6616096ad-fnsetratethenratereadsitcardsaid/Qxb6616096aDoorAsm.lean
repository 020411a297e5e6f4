import Derived.Test.Qxb6616096aDoorRateIs
import Derived.Test.Qxb6616096aDoorRephase
import Derived.Test.Qxb6616096aDoorSetR
import Derived.Test.Qxb6616096aDoorSetZ
import Derived.Test.Qxb6616096aDoorShardW
import Derived.Test.Qxb6616096aDoorSmall
namespace Go.Proofs.Qxb6616096aDoor
open Go.RowKit
set_option linter.unusedVariables false
set_option linter.unusedSimpArgs false
set_option maxRecDepth 100000
open Pl

/-- A rate in its words is one of the limit's. -/
def OKr (b : Nat) (m o e d f : Int) : Prop := ∃ m' o' d' f' : Nat, m = m' ∧ o = o' ∧ d = d' ∧ f = f' ∧ RateOK b m' o' e d' f'

theorem rate_okr {b : Nat} {per : Int} {mn mx it : Nat} (h : LimOK (b : Int) mn mx it per) (hp : per ≤ 9223372036854775807) (t : Nat) (h1 : mn ≤ t) (h2 : t ≤ mx) :
    ∃ m o e d f, OKr b m o e d f ∧ ∀ w, Tab w → Calls Tryd.prog 23 #[.agg #[.int .i64 (b : Int), .float .f64 t, .int .i64 per]] w fun e' w' =>
      e' = .returned (.agg #[.int .u64 m, .int .u64 o, .int .i64 e, .int .u64 d, .int .u64 f]) ∧ Below w.heap.size w w' := by
  obtain ⟨m, o, e, d, f, hr, hc⟩ := rate_ok h hp t h1 h2
  rw [Int.toNat_natCast] at hr
  exact ⟨m, o, e, d, f, ⟨m, o, d, f, rfl, rfl, rfl, rfl, hr⟩, hc⟩

theorem adaptive_c {b : Nat} {per : Int} {mn mx it : Nat} (h : LimOK (b : Int) mn mx it per) (hp : per ≤ 9223372036854775807) (ic dc : Nat) (w : World) (hT : Tab w) :
    ∃ m o e d f, OKr b m o e d f ∧ Calls Tryd.prog 9 #[.int .i64 (b : Int), .float .f64 mn, .float .f64 mx, .float .f64 it, .float .f64 ic, .float .f64 dc, .int .i64 per] w fun e' w' => RetAdap (b : Int) mn mx it ic dc per m o e d f e' w' ∧ Below w.heap.size w w' := by
  obtain ⟨m, o, e, d, f, hr, hc⟩ := rate_okr h hp it h.i1 h.i2
  refine ⟨m, o, e, d, f, hr, adap_w (b : Int) per mn mx it ic dc m o e d f w ?_ ?_⟩
  · exact fun w' hw => (limit_c (b : Int) per mn mx it ic dc it w').mono fun e' w'' ⟨h1, h2⟩ => ⟨h1, hw.below h2⟩
  · refine fun w' hw => (keyed_walk it (b : Int) per m o e d f w' ?_).mono fun e' w'' ⟨h1, h2⟩ => ⟨h1, hw.below h2⟩
    exact fun w2 h2 => hc w2 ((hT.below hw.low).below h2)

theorem Upd.pre {Q : Addr → Prop} {w W w' : World} (hb : Below w.heap.size w W) (h : Upd Q W w') : Upd Q w w' :=
  ⟨Nat.le_trans hb.size h.size, fun p hp hq => (h.cell p (Nat.lt_of_lt_of_le hp hb.size) hq).trans (hb.cell hp), fun p hp => (h.froz p (Nat.lt_of_lt_of_le hp hb.size)).trans (hb.frozen hp),
   fun N h1 h2 => (hb.mono h2).trans (h.low N h1 (Nat.le_trans h2 hb.size))⟩

theorem SetPost.pre {BB RB TB i : Nat} {burst T P L now : Int} {w W w' : World} (hb : Below w.heap.size w W) (h : SetPost BB RB TB i burst T P L now W w') : SetPost BB RB TB i burst T P L now w w' := by
  obtain ⟨T', P', L', h1, h2, h3, h4, h5, h6⟩ := h
  exact ⟨T', P', L', h1, h2, h3, h4, h5.pre hb, h6⟩

/-- What ZZsetRate leaves. -/
def ZPost (BB RB i : Nat) (t : Nat) (burst T P L now : Int) (w w' : World) : Prop :=
  ∃ TB, w.heap.size ≤ TB ∧ w'.cell? ⟨TB, 0, Option.none⟩ = some (.float .f64 t) ∧ SetPost BB RB TB i burst T P L now w w'

theorem setz_c {b : Nat} {per : Int} {mn mx it ic dc t : Nat} (h : LimOK (b : Int) mn mx it per) (hp : per ≤ 9223372036854775807) (ht1 : mn ≤ t) (ht2 : t ≤ mx) {A LB KB S BB RB n i : Nat} {m o e d f : Int} (hr : OKr b m o e d f)
    {bt bp bl : Nat → Int} {P : Nat → Option Nat} {own : Nat → Nat} {w0 w : World} (hA : Adap A LB KB (b : Int) mn mx it ic dc per m o e d f w0) (hS : ShS w0 S BB RB n bt bp bl P own (OKr b) w) (hT : Tab w) (hi : i < n) (hn : n ≤ 65536)
    (now : Int) (hn1 : -9223372036854775808 ≤ now) (hn2 : now ≤ 9223372036854775807) (hL1 : -9223372036854775808 ≤ bl i) (hL2 : bl i ≤ 9223372036854775807) (hT' : bt i = -1 ∨ (0 ≤ bt i ∧ bt i ≤ (b : Int) ∧ bp i = 0)) :
    Calls Tryd.prog 11 #[.pointer (some ⟨A, 0, Option.none⟩), .pointer (some ⟨S, 0, Option.none⟩), .int .i64 (i : Int), .float .f64 t, .int .i64 now] w fun e'' w' => e'' = .returned (.tuple #[]) ∧ ZPost BB RB i t (b : Int) (bt i) (bp i) (bl i) now w w' := by
  obtain ⟨m', o', e', d', f', hr', hc⟩ := rate_okr h hp t ht1 ht2
  obtain ⟨n1, n2, n3, n4, n5, n6, n7, n8⟩ := hS.ne
  have lK : KB < w0.heap.size := World.block_lt_of_cell? w0 _ hA.k
  have hAw := hA.below hS.low
  refine setz_w A LB KB S i (b : Int) mn mx it ic dc t per m o e d f m' o' e' d' f' now w ⟨hAw, Below.refl _ _⟩ (ZPost BB RB i t (b : Int) (bt i) (bp i) (bl i) now w) ?_ ?_ ?_
  · exact fun w' hw => (limit_c (b : Int) per mn mx it ic dc t w').mono fun e' w'' ⟨h1, h2⟩ => ⟨h1, hw.below h2⟩
  · exact fun w' hw => (hc w' (hT.below hw.low)).mono fun e' w'' ⟨h1, h2⟩ => ⟨h1, hw.below h2⟩
  · intro w' hw
    obtain ⟨W, hW⟩ : ∃ W, W = w'.alloc (.cells #[.float .f64 t, .int .u64 m', .int .u64 o', .int .i64 e', .int .u64 d', .int .u64 f'] 101) := ⟨_, rfl⟩
    have hbW : Below w'.heap.size w' W := by rw [hW]; exact (Below.refl _ _).alloc (Nat.le_refl _) _
    have hwW : Below w.heap.size w W := hw.low.trans (hbW.mono hw.low.size)
    have hSW := hS.below hwW
    have hAW := (hw.below hbW).ad
    have hTB : W.cell? ⟨w'.heap.size, 0, Option.none⟩ = some (.float .f64 t) := by rw [hW]; simp [go_sem]
    have hTR : RateAt w'.heap.size 1 m' o' e' d' f' W := by rw [hW]; exact ⟨by simp [go_sem], by simp [go_sem], by simp [go_sem], by simp [go_sem], by simp [go_sem]⟩
    rw [← hW]
    clear hW
    have hTs : w.heap.size ≤ w'.heap.size := hw.low.size
    obtain ⟨fm, fo, fe, fd, ff, hfr, hfo, hne⟩ : ∃ fm fo fe fd ff, RateAt (rateLies (P i) KB 0).block (rateLies (P i) KB 0).off fm fo fe fd ff W ∧ OKr b fm fo fe fd ff ∧ BB ≠ (rateLies (P i) KB 0).block := by
      cases hPi : P i with
      | none => exact ⟨m, o, e, d, f, hAW.r, hr, by show BB ≠ KB; omega⟩
      | some B =>
        obtain ⟨q1, ⟨fm, fo, fe, fd, ff, q2, q3⟩, q4, q5, q6⟩ := hSW.pr i hi B hPi
        exact ⟨fm, fo, fe, fd, ff, q2, q3, Ne.symm q4⟩
    have hH : SetH W S KB RB BB w'.heap.size n i (P i) (b : Int) fm fo fe fd ff m' o' e' d' f' (bt i) (bp i) (bl i) W :=
      ⟨hSW.s4, hSW.s5, hSW.s6, hAW.k, hSW.b0 i hi, hSW.b1 i hi, hSW.b2 i hi, hSW.g0 _, hSW.g0 _, hSW.g0 _, hSW.rc i hi, hSW.rf i, hfr, hTR, ⟨Ne.symm n4, by omega, n6, by omega, hne⟩, Upd.refl _ _⟩
    have fin : ∀ w'', SetPost BB RB w'.heap.size i (b : Int) (bt i) (bp i) (bl i) now W w'' → ZPost BB RB i t (b : Int) (bt i) (bp i) (bl i) now w w'' := fun w'' hp => by
      refine ⟨w'.heap.size, hTs, ?_, hp.pre hwW⟩
      obtain ⟨T', P', L', h1, h2, h3, h4, h5, h6⟩ := hp
      rw [h5.cell ⟨w'.heap.size, 0, Option.none⟩ (World.block_lt_of_cell? W _ hTB) ?_]
      · exact hTB
      · rintro (⟨a, _⟩ | ⟨a, _⟩)
        · have : w'.heap.size = BB := a
          omega
        · have : w'.heap.size = RB := a
          omega
    rcases hT' with hT1 | ⟨hT1, hT2, hT3⟩
    · rw [hT1] at hH fin ⊢
      exact (setRate_no S KB RB BB w'.heap.size n i (P i) (b : Int) fm fo fe fd ff m' o' e' d' f' (bp i) (bl i) now W hi hn hH).mono fun e'' w'' ⟨h1, h2⟩ => ⟨h1, fin w'' h2⟩
    · rw [hT3] at hH fin ⊢
      obtain ⟨fmN, foN, fdN, ffN, rfl, rfl, rfl, rfl, hR⟩ := hfo
      obtain ⟨mN, oN, dN, fN, rfl, rfl, rfl, rfl, hR'⟩ := hr'
      refine (setRate_yes S KB RB BB w'.heap.size n i (P i) (b : Int) fmN foN fe fdN ffN mN oN e' dN fN (bt i) (bl i) now W hi hn (by omega) hH ?_ ?_ ?_).mono fun e'' w'' ⟨h1, h2⟩ => ⟨h1, fin w'' h2⟩
      · exact fun w2 h2 => rateOf_c S KB 0 RB n i (P i) w2 hi hn h2.s6 h2.s5 h2.rc
      · intro w2 h2
        have hl : rateLies (P i) KB 0 = ⟨(rateLies (P i) KB 0).block, (rateLies (P i) KB 0).off, Option.none⟩ := by cases P i <;> rfl
        rw [hl]
        exact refill_c hR (bt i) (bl i) now hT1 hT2 hL1 hL2 hn1 hn2 KB 0 _ _ w2 h2.k h2.fr
      · exact fun P1 mo w2 h1 h2 => rephase_c hR hR' P1 mo h1 h2 w2

end Go.Proofs.Qxb6616096aDoor
