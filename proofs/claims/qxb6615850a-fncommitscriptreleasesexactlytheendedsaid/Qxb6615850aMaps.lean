import Derived.Test.Qxb6615850aBase
import Derived.Maps.OwnSet
import Derived.Maps.StringElems
import Derived.Lib.SlKeysI
namespace Go.Proofs.Qxb6615850a
open Go.RowKit
set_option linter.unusedVariables false

/-- How many x below k have p. -/
def cnt (p : Nat → Bool) : Nat → Nat
  | 0 => 0
  | k + 1 => cnt p k + if p k then 1 else 0

theorem cnt_congr {p q : Nat → Bool} : ∀ (k : Nat), (∀ x, x < k → p x = q x) → cnt p k = cnt q k
  | 0, _ => rfl
  | k + 1, h => by simp only [cnt]; rw [cnt_congr k (fun x hx => h x (by omega)), h k (by omega)]

theorem cnt_false : ∀ k : Nat, cnt (fun _ => false) k = 0
  | 0 => rfl
  | k + 1 => by simp [cnt, cnt_false k]

theorem cnt_le (p : Nat → Bool) : ∀ k : Nat, cnt p k ≤ k
  | 0 => Nat.le_refl _
  | k + 1 => by have := cnt_le p k; simp only [cnt]; split <;> omega

theorem cnt_set (p : Nat → Bool) (x : Nat) : ∀ k : Nat, x < k → p x = false → cnt (fun y => if y = x then true else p y) k = cnt p k + 1
  | 0, h, _ => by omega
  | k + 1, h, hp => by
    simp only [cnt]
    by_cases e : k = x
    · subst e
      rw [cnt_congr k (q := p) (fun y hy => by simp; omega)]
      simp [hp]
    · rw [cnt_set p x k (by omega) hp]; simp only [e, if_false]; omega

theorem cnt_unset (p : Nat → Bool) (x : Nat) : ∀ k : Nat, x < k → p x = true → cnt (fun y => if y = x then false else p y) k + 1 = cnt p k
  | 0, h, _ => by omega
  | k + 1, h, hp => by
    simp only [cnt]
    by_cases e : k = x
    · subst e
      rw [cnt_congr k (q := p) (fun y hy => by simp; omega)]
      simp [hp]
    · have := cnt_unset p x k (by omega) hp
      simp only [e, if_false]; omega

abbrev Dm := DataW Unit
abbrev kz (z : Int) : Lit := .int .i64 z
theorem kz_ne {a b : Int} (h : a ≠ b) : kz a ≠ kz b := by simp [kz, h]

/-- The map's datum D holds, of the keys below k, those with h, each with its value; and no other. -/
structure MIs {α : Type} (val : α → Dm) (D : Dm) (k : Nat) (h : Nat → Option α) : Prop where
  has : ∀ x : Nat, x < k → Maps.has D (kz x) = (h x).isSome
  out : ∀ z : Int, (z < 0 ∨ (k : Int) ≤ z) → Maps.has D (kz z) = false
  at_ : ∀ x : Nat, x < k → ∀ b, h x = some b → ∀ d, D.atKey (kz x) d = val b
  size : Maps.size D = cnt (fun x => (h x).isSome) k

theorem MIs.empty {α : Type} (val : α → Dm) (k : Nat) : MIs val (.map []) k (fun _ => Option.none) where
  has := fun x hx => rfl
  out := fun z hz => rfl
  at_ := fun x hx b hb => by cases hb
  size := by simp [Maps.size, cnt_false]

theorem MIs.congr {α : Type} {val : α → Dm} {D : Dm} {k : Nat} {h h' : Nat → Option α} (H : MIs val D k h) (e : ∀ x, x < k → h x = h' x) : MIs val D k h' where
  has := fun x hx => by rw [← e x hx]; exact H.has x hx
  out := H.out
  at_ := fun x hx b hb => H.at_ x hx b (by rw [e x hx]; exact hb)
  size := by rw [H.size]; exact cnt_congr k (fun x hx => by rw [e x hx])

theorem MIs.put {α : Type} {val : α → Dm} {D : Dm} {k : Nat} {h : Nat → Option α} (H : MIs val D k h) (T : Maps.Tidy D) (x : Nat) (hx : x < k) (b : α) :
    MIs val (D.put (kz x) (val b)) k (fun y => if y = x then some b else h y) where
  has := fun y hy => by
    by_cases e : y = x
    · subst e; simp [Maps.has_put_same T.isMap (k := kz y) trivial]
    · rw [Maps.has_put_other (kz_ne (by omega)), H.has y hy, if_neg e]
  out := fun z hz => by
    rw [Maps.has_put_other (kz_ne (by omega))]; exact H.out z hz
  at_ := fun y hy b' hb d => by
    by_cases e : y = x
    · subst e
      simp at hb
      subst hb
      exact Maps.atKey_put_same T.isMap (k := kz y) trivial _ _
    · rw [if_neg e] at hb
      rw [Maps.atKey_put_other (kz_ne (by omega))]
      exact H.at_ y hy b' hb d
  size := by
    rw [Maps.size_put T, H.has x hx, H.size]
    cases hh : (h x).isSome with
    | true =>
      rw [if_pos rfl]
      apply cnt_congr
      intro y hy
      by_cases e : y = x
      · subst e; simp [hh]
      · simp [e]
    | false =>
      rw [if_neg (by simp)]
      rw [← cnt_set (fun y => (h y).isSome) x k hx hh]
      apply cnt_congr
      intro y hy
      by_cases e : y = x <;> simp [e]

theorem MIs.del {α : Type} {val : α → Dm} {D : Dm} {k : Nat} {h : Nat → Option α} (H : MIs val D k h) (T : Maps.Tidy D) (x : Nat) (hx : x < k) :
    MIs val (D.del (kz x)) k (fun y => if y = x then Option.none else h y) where
  has := fun y hy => by
    by_cases e : y = x
    · subst e; simp [Maps.has_del_same]
    · rw [Maps.has_del_other (kz_ne (by omega)), H.has y hy, if_neg e]
  out := fun z hz => by
    rw [Maps.has_del_other (kz_ne (by omega))]; exact H.out z hz
  at_ := fun y hy b' hb d => by
    by_cases e : y = x
    · subst e; simp at hb
    · rw [if_neg e] at hb
      rw [Maps.atKey_del_other (kz_ne (by omega))]
      exact H.at_ y hy b' hb d
  size := by
    have := Maps.size_del (k := kz x) T
    rw [H.has x hx, H.size] at this
    cases hh : (h x).isSome with
    | true =>
      rw [hh, if_pos rfl] at this
      have h2 := cnt_unset (fun y => (h y).isSome) x k hx hh
      have h3 : cnt (fun y => (if y = x then Option.none else h y).isSome) k = cnt (fun y => if y = x then false else (h y).isSome) k := cnt_congr k (fun y hy => by by_cases e : y = x <;> simp [e])
      rw [h3]; omega
    | false =>
      rw [hh, if_neg (by simp)] at this
      have h3 : cnt (fun y => (if y = x then Option.none else h y).isSome) k = cnt (fun y => (h y).isSome) k := cnt_congr k (fun y hy => by
        by_cases e : y = x
        · subst e; simp [hh]
        · simp [e])
      rw [h3]; omega

/-- A lock's mode as it stands in a held map: X is true. -/
def mdb (b : Bool) : ByteArray := if b then ⟨#[88]⟩ else ⟨#[83]⟩
def md (b : Bool) : Dm := .lit (.string (mdb b).data.toList)
def tt (_ : Unit) : Dm := .lit (.bool true)

theorem K3 : Maps.Keyed Try.prog 3 := Maps.int_keyed Try.underlying3

/-- Block b is a held map: h x is the lock on x. -/
def HeldM (w : World) (b k : Nat) (h : Nat → Option Bool) : Prop := ∃ (D : Dm) (nn : Nat), w.ownsMap Try.prog 3 (plainElem Try.prog 39) b nn D ∧ MIs md D k h
/-- Block b is a readers map. -/
def ReadM (w : World) (b n : Nat) (r : Nat → Option Unit) : Prop := ∃ (D : Dm) (nn : Nat), w.ownsMap Try.prog 3 (plainElem Try.prog 4) b nn D ∧ MIs tt D n r

theorem HeldM.lt {w : World} {b k : Nat} {h : Nat → Option Bool} (H : HeldM w b k h) : b < w.heap.size := by obtain ⟨D, nn, ho, _⟩ := H; exact ho.lt
theorem ReadM.lt {w : World} {b k : Nat} {h : Nat → Option Unit} (H : ReadM w b k h) : b < w.heap.size := by obtain ⟨D, nn, ho, _⟩ := H; exact ho.lt
theorem HeldM.kept {w w' : World} {b k : Nat} {h : Nat → Option Bool} (H : HeldM w b k h) (e : w'.heap[b]? = w.heap[b]?) : HeldM w' b k h := by
  obtain ⟨D, nn, ⟨es, clock, hb, r⟩, hm⟩ := H
  exact ⟨D, nn, ⟨es, clock, e.trans hb, r⟩, hm⟩
theorem ReadM.kept {w w' : World} {b k : Nat} {h : Nat → Option Unit} (H : ReadM w b k h) (e : w'.heap[b]? = w.heap[b]?) : ReadM w' b k h := by
  obtain ⟨D, nn, ⟨es, clock, hb, r⟩, hm⟩ := H
  exact ⟨D, nn, ⟨es, clock, e.trans hb, r⟩, hm⟩
theorem HeldM.congr {w : World} {b k : Nat} {h h' : Nat → Option Bool} (H : HeldM w b k h) (e : ∀ x, x < k → h x = h' x) : HeldM w b k h' := by
  obtain ⟨D, nn, ho, hm⟩ := H; exact ⟨D, nn, ho, hm.congr e⟩
theorem ReadM.congr {w : World} {b k : Nat} {h h' : Nat → Option Unit} (H : ReadM w b k h) (e : ∀ x, x < k → h x = h' x) : ReadM w b k h' := by
  obtain ⟨D, nn, ho, hm⟩ := H; exact ⟨D, nn, ho, hm.congr e⟩

theorem wf_small (x : Nat) (h : x ≤ 1000000) : (Lit.int .i64 (x : Int)).wf = true := by
  have : (decide (IntKind.i64.min ≤ (x : Int)) && decide ((x : Int) ≤ IntKind.i64.max)) = true := by
    rw [show IntKind.min .i64 = -9223372036854775808 from rfl, show IntKind.max .i64 = 9223372036854775807 from rfl]
    simp; omega
  exact this
theorem key3 (x : Nat) (h : x ≤ 1000000) : keyOf Try.prog 3 (.int .i64 (x : Int)) = some (kz x) := Maps.keyOf_int_mk Try.underlying3 (wf_small x h)

/-- The keys of an owned map, as the library names them. -/
theorem mem_keys {R : Value → Option (Dm × List MemPlace)} {w : World} {b n : Nat} {D : Dm} (ho : w.ownsMap Try.prog 3 R b n D) (x : Int) : x ∈ intKeys D ↔ Maps.has D (kz x) = true := by
  obtain ⟨es, rfl, hko⟩ := ho.keysOf
  simp only [intKeys, List.mem_map, Maps.has_eq, List.any_eq_true]
  constructor
  · rintro ⟨p, hp, rfl⟩
    refine ⟨p, hp, ?_⟩
    obtain ⟨v, hv⟩ := hko p hp
    obtain ⟨y, _, hy, _⟩ := Maps.keyOf_i64 Try.underlying3 hv
    rw [hy]; simp [Go.intOf, Lit.sameKey]
  · rintro ⟨p, hp, hs⟩
    refine ⟨p, hp, ?_⟩
    have := WideAt.sameKey_eq hs
    rw [this]; rfl

theorem nodup_keys {R : Value → Option (Dm × List MemPlace)} {w : World} {b n : Nat} {D : Dm} (ho : w.ownsMap Try.prog 3 R b n D) : (intKeys D).Nodup := by
  obtain ⟨es, hD, hpw, _⟩ := ho.entries K3
  obtain ⟨es', hD', hko⟩ := ho.keysOf
  obtain rfl : es = es' := by rw [hD] at hD'; simpa using hD'
  subst hD
  simp only [intKeys, List.Nodup, List.pairwise_map]
  refine hpw.imp_of_mem ?_
  intro p q hp hq hne e
  obtain ⟨v, hv⟩ := hko p hp
  obtain ⟨y, _, hy, _⟩ := Maps.keyOf_i64 Try.underlying3 hv
  obtain ⟨v', hv'⟩ := hko q hq
  obtain ⟨y', _, hy', _⟩ := Maps.keyOf_i64 Try.underlying3 hv'
  apply hne
  rw [hy, hy'] at e ⊢
  simp only [Go.intOf] at e
  rw [e]

end Go.Proofs.Qxb6615850a
