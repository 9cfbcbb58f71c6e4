/-
  WHAT BOTH ROWS OF THE SEAT SHARE: a slice of entries that came in, opened.
-/
import Derived.Test.Qxb6614989aMap
import Derived.ProofKit
import Derived.OpenShut
import Derived.ShutString
import Derived.ChangeOld
import Derived.Deep.SlicePairs
namespace Go.Proofs.Qxb6614989a
open Go.ChangeShapes Go.WideShapes Go.ChangeAt Go.RowKit

theorem Try.own : ownKnob Try.prog.godebug = none := by kernel_rfl
theorem Try.laidOut : laidOutB Try.prog = true := by kernel_rfl
theorem Try.cells38 : Try.prog.cellsOf 38 = 2 := by kernel_rfl
theorem Try.cells9 : Try.prog.cellsOf 9 = 1 := by kernel_rfl
theorem Try.cells33 : Try.prog.cellsOf 33 = 1 := by kernel_rfl
theorem Try.fields38 : ∃ f0 f1 : Field, Try.prog.underlying 38 = some (.struct #[f0, f1]) ∧ f0.offset = 0 ∧ f1.offset = 1 ∧ f0.type = 9 ∧ f1.type = 33 := ⟨_, _, Try.underlying38, rfl, rfl, rfl, rfl⟩

/-- A slice of entries that came in: what the walks ask of it. -/
theorem open_entries {W : World} {H : Type} {enc : TypeId × Value → H} {a0 : Option Addr} {len cap : Nat} {d : DataW H} {ps : List MemPlace}
    (h : DataW.Trod enc Try.prog W 0 (fun _ => true) true 22 (.slice a0 len cap) d ps) : ∃ es : List (Key × Int), es.length = len ∧ Good es ∧ CameE W a0 es := by
  obtain ⟨fuel, hf⟩ := h
  obtain ⟨f0, f1, hu, o0, o1, t0, t1⟩ := Try.fields38
  rcases Deep.open_slice_pairs Try.underlying22 hu Try.cells38 o0 o1 (by rw [t0]; exact Try.cells9) (by rw [t1]; exact Try.cells33) hf with ⟨hcs, _⟩ | ⟨a, l, c, m, n, V0, V1, D0, D1, P0, P1, hcs, _, hl, hm, hmm, _, hx⟩
  · simp [Value.cells] at hcs
    obtain ⟨rfl, rfl, rfl⟩ := hcs
    exact ⟨[], rfl, (by intro t ht; simp at ht), Or.inl rfl⟩
  · simp [Value.cells] at hcs
    obtain ⟨rfl, rfl, rfl⟩ := hcs
    have hlm : len ≤ m := by rw [hmm]; split <;> omega
    have each : ∀ i, i < len → ∃ q : Key × Int, W.cell? (a.add (i * 2)) = some (encStr q.1) ∧ W.cell? (a.add (i * 2 + 1)) = some (.int .u64 q.2) ∧ q.1.length ≤ maxLen ∧ (Lit.int .u64 q.2).wf = true := by
      intro i hi
      obtain ⟨h1, h2, h3, h4⟩ := hx i (by omega)
      rw [t0] at h3
      rw [t1] at h4
      obtain ⟨s, e1, _, hs⟩ := DataW.trod_string Try.underlying9 h3
      obtain ⟨z, e2, _, hz⟩ := DataW.trod_int Try.underlying33 h4
      rw [(List.cons.inj e1).1] at h1
      rw [(List.cons.inj e2).1] at h2
      exact ⟨(s.data.toList, z), h1, h2, by rw [Array.length_toList]; exact hs, hz⟩
    obtain ⟨q, hq⟩ := Deep.choose_lt each
    refine ⟨(List.range len).map q, by simp, ?_, ?_⟩
    · intro t ht
      obtain ⟨i, hi, rfl⟩ := List.mem_map.1 ht
      exact (hq i (List.mem_range.1 hi)).2.2
    · by_cases h0 : len = 0
      · subst h0; exact Or.inl (by simp)
      obtain ⟨b, off, spot⟩ := a
      have hspot : spot = Option.none := by simpa [Addr.add] using World.cell?_spot (hq 0 (by omega)).1
      subst hspot
      refine Or.inr ⟨b, off, rfl, fun j t hj => ?_⟩
      have hjl : j < len := by have := (List.getElem?_eq_some_iff.1 hj).1; simpa using this
      obtain rfl : q j = t := by simpa [hjl] using hj
      obtain ⟨h1, h2, _⟩ := hq j hjl
      exact ⟨by rw [← add_plain]; exact h1, by rw [Nat.add_assoc, ← add_plain]; exact h2⟩
end Go.Proofs.Qxb6614989a
