/-
  common: what is collected out of the two maps, sorted by name.
-/
import Derived.Test.Qxb6614989aSort
import Derived.Maps.RangeWalk
import Derived.Sort.OwnSorted
namespace Go.Proofs.Qxb6614989a
open Go.Shelf Go.RowKit Go.Lib Go.Sort Go.WideMaps Go.Maps

/-- The count that a map holds at a key; 0 where it holds none. -/
def valOf (D : DataW Unit) (k : Key) : Int := match D.atKey (.string k) (u64D 0) with | .lit (.int _ v) => v | _ => 0
theorem valOf_of {D : DataW Unit} {k : Key} {q : IntKind} {c : Int} (h : D.atKey (.string k) (u64D 0) = .lit (.int q c)) : valOf D k = c := by simp [valOf, h]
theorem valOf_none {D : DataW Unit} {k : Key} (h : Maps.has D (.string k) = false) : valOf D k = 0 := valOf_of (atKey_of_not_has h _)

/-- What has been gathered: of each key that is no longer to come, where both count it, its smaller count; no key twice. -/
structure Gathered (DA DH : DataW Unit) (left : Lit → Bool) (acc : List (Key × Int)) : Prop where
  nodup : (acc.map (·.1)).Nodup
  mem : ∀ k m, (k, m) ∈ acc ↔ (Maps.has DA (.string k) = true ∧ left (.string k) = false ∧ m = min (valOf DA k) (valOf DH k) ∧ 0 < m)

theorem gathered_start (DA DH : DataW Unit) : Gathered DA DH (Maps.has DA) [] :=
  ⟨by simp, fun k m => by cases h : Maps.has DA (.string k) <;> simp⟩

theorem sameKey_str (k x : Key) : (Lit.string k).sameKey (.string x) = (k == x) := by simp [Lit.sameKey]

theorem gathered_keep {DA DH : DataW Unit} {left : Lit → Bool} {acc : List (Key × Int)} (h : Gathered DA DH left acc) {x : Key} (hx : Maps.has DA (.string x) = true) (hl : left (.string x) = true) (hp : 0 < min (valOf DA x) (valOf DH x)) :
    Gathered DA DH (fun z => left z && !z.sameKey (.string x)) (acc ++ [(x, min (valOf DA x) (valOf DH x))]) := by
  refine ⟨?_, ?_⟩
  · rw [List.map_append, List.nodup_append]
    refine ⟨h.nodup, by simp, ?_⟩
    intro a ha b hb e
    simp at hb
    subst hb; subst e
    obtain ⟨t, ht, e2⟩ := List.mem_map.1 ha
    have := (h.mem t.1 t.2).1 ht
    rw [e2, hl] at this
    simp at this
  · intro k m
    simp only [List.mem_append, List.mem_singleton, Prod.mk.injEq, h.mem, sameKey_str]
    by_cases hk : k = x
    · subst hk
      simp [hl, hx]
      intro e; rw [e]; exact hp
    · have e : (k == x) = false := by simpa using hk
      simp [hk, e]

theorem gathered_drop {DA DH : DataW Unit} {left : Lit → Bool} {acc : List (Key × Int)} (h : Gathered DA DH left acc) {x : Key} (hl : left (.string x) = true) (hp : ¬ 0 < min (valOf DA x) (valOf DH x)) :
    Gathered DA DH (fun z => left z && !z.sameKey (.string x)) acc := by
  refine ⟨h.nodup, ?_⟩
  intro k m
  rw [h.mem]
  simp only [sameKey_str]
  by_cases hk : k = x
  · subst hk
    simp only [hl, beq_self_eq_true, Bool.not_true, Bool.and_false]
    constructor
    · rintro ⟨_, h2, _⟩; cases h2
    · rintro ⟨_, _, h3, h4⟩; rw [h3] at h4; exact absurd h4 hp
  · have e : (k == x) = false := by simpa using hk
    simp [e]

/-- 'common' in plain words: in strictly rising name order, just the names that both count, each with the smaller count. -/
structure Comm (f g : Key → Int) (L : List (Key × Int)) : Prop where
  sorted : L.Pairwise fun a b => a.1 < b.1
  mem : ∀ k m, (k, m) ∈ L ↔ (m = min (f k) (g k) ∧ 0 < m)

theorem gathered_end {DA DH : DataW Unit} {left : Lit → Bool} {acc L : List (Key × Int)} (h : Gathered DA DH left acc) (hl : ∀ kl, left kl = false) (hp : L.Perm acc) (hs : L.Pairwise fun a b => ltE b a = false) : Comm (valOf DA) (valOf DH) L := by
  refine ⟨?_, ?_⟩
  · have hnd : (L.map (·.1)).Nodup := (hp.map _).nodup_iff.2 h.nodup
    rw [List.Nodup, List.pairwise_map] at hnd
    rw [List.pairwise_iff_getElem] at hs hnd ⊢
    intro i j hi hj hij
    have e1 := hs i j hi hj hij
    have e2 := hnd i j hi hj hij
    refine Std.lt_of_le_of_ne (List.not_lt.1 ?_) e2
    simpa [ltE, ltStr] using e1
  · intro k m
    rw [hp.mem_iff, h.mem]
    simp only [hl, true_and]
    constructor
    · rintro ⟨_, h3, h4⟩; exact ⟨h3, h4⟩
    · rintro ⟨h3, h4⟩
      refine ⟨?_, h3, h4⟩
      cases hh : Maps.has DA (.string k) with
      | true => rfl
      | false =>
        rw [valOf_none hh] at h3
        have := Int.min_le_left 0 (valOf DH k)
        omega
end Go.Proofs.Qxb6614989a
