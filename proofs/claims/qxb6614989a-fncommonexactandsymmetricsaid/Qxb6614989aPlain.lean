/-
  The plain laws: a list in strict name order is settled by its members; zzPut turns common's list into that of the updated counts.
-/
import Derived.Test.Qxb6614989aPut
namespace Go.Proofs.Qxb6614989a
open Go.RowKit Go.WideMaps Go.Maps Go.Sort

theorem key_irrefl (a : Key) : ¬ a < a := List.lt_irrefl a
theorem key_trans {a b c : Key} (h : a < b) (k : b < c) : a < c := List.lt_trans h k
theorem key_of_not {a b : Key} (h : ¬ a < b) (k : b ≠ a) : b < a := Std.lt_of_le_of_ne (List.not_lt.1 h) k

theorem uniq : ∀ (L L' : List (Key × Int)), L.Pairwise (fun a b => a.1 < b.1) → L'.Pairwise (fun a b => a.1 < b.1) → (∀ t, t ∈ L ↔ t ∈ L') → L = L'
  | [], L', _, _, h => by
    cases L' with
    | nil => rfl
    | cons b r => exact absurd ((h b).2 (List.mem_cons_self ..)) (by simp)
  | a :: L, [], _, _, h => absurd ((h a).1 (List.mem_cons_self ..)) (by simp)
  | a :: L, b :: L', h1, h2, h => by
    rw [List.pairwise_cons] at h1 h2
    have hab : a = b := by
      rcases List.mem_cons.1 ((h a).1 (List.mem_cons_self ..)) with e | ha
      · exact e
      · rcases List.mem_cons.1 ((h b).2 (List.mem_cons_self ..)) with e | hb
        · exact e.symm
        · exact absurd (key_trans (h1.1 b hb) (h2.1 a ha)) (key_irrefl _)
    subst hab
    congr 1
    refine uniq L L' h1.2 h2.2 (fun t => ⟨fun ht => ?_, fun ht => ?_⟩)
    · rcases List.mem_cons.1 ((h t).1 (List.mem_cons_of_mem _ ht)) with e | k
      · subst e; exact absurd (h1.1 _ ht) (key_irrefl _)
      · exact k
    · rcases List.mem_cons.1 ((h t).2 (List.mem_cons_of_mem _ ht)) with e | k
      · subst e; exact absurd (h2.1 _ ht) (key_irrefl _)
      · exact k

theorem Comm.uniq {f g f' g' : Key → Int} {L L' : List (Key × Int)} (h : Comm f g L) (h' : Comm f' g' L') (e : ∀ k, min (f k) (g k) = min (f' k) (g' k)) : L = L' :=
  Qxb6614989a.uniq L L' h.sorted h'.sorted fun t => by rw [show t = (t.1, t.2) from rfl, h.mem, h'.mem, e]

theorem less_iff (a b : Key) : Op.bytesLess a b = true ↔ a < b := by rw [bytesLess_eq]; simp

theorem putGo_true (x : Key) (v : Int) : ∀ L : List (Key × Int), putGo x v true L = L.filter (fun t => decide (t.1 ≠ x))
  | [] => rfl
  | t :: L => by
    have ih := putGo_true x v L
    by_cases h : t.1 = x
    · simp [putGo, h, ih]
    · simp [putGo, h, ih]

theorem putGo_false (x : Key) (v : Int) : ∀ L : List (Key × Int), L.Pairwise (fun a b => a.1 < b.1) →
    (putGo x v false L).Pairwise (fun a b => a.1 < b.1) ∧ ∀ t, t ∈ putGo x v false L ↔ t = (x, v) ∨ (t ∈ L ∧ t.1 ≠ x)
  | [], _ => ⟨by simp [putGo], by simp [putGo]⟩
  | a :: L, h => by
    rw [List.pairwise_cons] at h
    obtain ⟨i1, i2⟩ := putGo_false x v L h.2
    by_cases he : a.1 = x
    · have e : putGo x v false (a :: L) = putGo x v false L := by simp [putGo, he]
      rw [e]
      refine ⟨i1, fun t => ?_⟩
      rw [i2, List.mem_cons]
      constructor
      · rintro (h1 | ⟨h1, h2⟩)
        · exact .inl h1
        · exact .inr ⟨.inr h1, h2⟩
      · rintro (h1 | ⟨h1 | h1, h2⟩)
        · exact .inl h1
        · subst h1; exact absurd he h2
        · exact .inr ⟨h1, h2⟩
    · by_cases hl : x < a.1
      · have e : putGo x v false (a :: L) = (x, v) :: a :: L.filter (fun t => decide (t.1 ≠ x)) := by
          simp [putGo, he, (less_iff _ _).2 hl, putGo_true]
        rw [e]
        refine ⟨?_, fun t => ?_⟩
        · rw [List.pairwise_cons, List.pairwise_cons]
          refine ⟨?_, fun b hb => h.1 b ((List.mem_filter.1 hb).1), h.2.filter _⟩
          intro b hb
          rcases List.mem_cons.1 hb with e2 | hb
          · subst e2; exact hl
          · exact key_trans hl (h.1 b ((List.mem_filter.1 hb).1))
        · simp only [List.mem_cons, List.mem_filter, decide_eq_true_eq]
          constructor
          · rintro (h1 | h1 | ⟨h1, h2⟩)
            · exact .inl h1
            · subst h1; exact .inr ⟨.inl rfl, he⟩
            · exact .inr ⟨.inr h1, h2⟩
          · rintro (h1 | ⟨h1 | h1, h2⟩)
            · exact .inl h1
            · exact .inr (.inl h1)
            · exact .inr (.inr ⟨h1, h2⟩)
      · have hb0 : Op.bytesLess x a.1 = false := by cases hc : Op.bytesLess x a.1 with
          | false => rfl
          | true => exact absurd ((less_iff _ _).1 hc) hl
        have e : putGo x v false (a :: L) = a :: putGo x v false L := by simp [putGo, he, hb0]
        rw [e]
        refine ⟨?_, fun t => ?_⟩
        · rw [List.pairwise_cons]
          refine ⟨fun b hb => ?_, i1⟩
          rcases (i2 b).1 hb with e2 | ⟨hb, _⟩
          · subst e2; exact key_of_not hl he
          · exact h.1 b hb
        · rw [List.mem_cons, i2, List.mem_cons]
          constructor
          · rintro (h1 | h1 | ⟨h1, h2⟩)
            · subst h1; exact .inr ⟨.inl rfl, he⟩
            · exact .inl h1
            · exact .inr ⟨.inr h1, h2⟩
          · rintro (h1 | ⟨h1 | h1, h2⟩)
            · exact .inr (.inl h1)
            · exact .inl h1
            · exact .inr (.inr ⟨h1, h2⟩)

theorem Comm.put {f g f' g' : Key → Int} {L : List (Key × Int)} (h : Comm f g L) (x : Key) (a b : Int) (ha : 0 ≤ a) (hb : 0 ≤ b) (fx : f' x = a) (gx : g' x = b) (fo : ∀ k, k ≠ x → f' k = f k) (go : ∀ k, k ≠ x → g' k = g k) :
    Comm f' g' (putGo x (min a b) (decide (min a b = 0)) L) := by
  have hv : 0 ≤ min a b := by omega
  by_cases h0 : min a b = 0
  · rw [h0, show decide ((0 : Int) = 0) = true from rfl, putGo_true]
    refine ⟨h.sorted.filter _, fun k m => ?_⟩
    simp only [List.mem_filter, decide_eq_true_eq, h.mem]
    by_cases hk : k = x
    · subst hk
      rw [fx, gx, h0]
      constructor
      · rintro ⟨_, h2⟩; exact absurd rfl h2
      · rintro ⟨h1, h2⟩; omega
    · rw [fo k hk, go k hk]
      constructor
      · rintro ⟨h1, _⟩; exact h1
      · intro h1; exact ⟨h1, hk⟩
  · rw [show decide (min a b = 0) = false from by simpa using h0]
    obtain ⟨h1, h2⟩ := putGo_false x (min a b) L h.sorted
    refine ⟨h1, fun k m => ?_⟩
    rw [h2, h.mem]
    by_cases hk : k = x
    · subst hk
      rw [fx, gx]
      constructor
      · rintro (h3 | ⟨_, h4⟩)
        · cases h3; exact ⟨rfl, by omega⟩
        · exact absurd rfl h4
      · rintro ⟨h3, _⟩; subst h3; exact .inl rfl
    · rw [fo k hk, go k hk]
      constructor
      · rintro (h3 | ⟨h3, _⟩)
        · exact absurd (congrArg Prod.fst h3) hk
        · exact h3
      · intro h3; exact .inr ⟨h3, hk⟩
end Go.Proofs.Qxb6614989a
