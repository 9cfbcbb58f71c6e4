/-
  A slice of bools that came in, opened.
-/
import Derived.Test.Qxb6609137aDoorKit
import Derived.Test.Qxb6609137aDoorLawE
import Derived.Deep.Grids
namespace Go.Proofs.Qxb6609137aDoor
open Go.ChangeShapes Go.WideShapes Go.ChangeAt Go.RowKit

theorem Tryd.cells4 : Tryd.prog.cellsOf 4 = 1 := by kernel_rfl

theorem bools_at {w : World} {a : Addr} {B : Nat → Bool} {m : Nat} (h : ∀ i, i < m → w.cell? (a.add i) = some (.bool (B i))) (hp : 0 < m) :
    ∃ b off, a = ⟨b, off, none⟩ ∧ ∀ j, j < m → w.cell? ⟨b, off + j, none⟩ = some (.bool (B j)) := by
  obtain ⟨b, off, spot⟩ := a
  have hspot : spot = none := by simpa [Addr.add] using World.cell?_spot (h 0 hp)
  subst hspot
  exact ⟨b, off, rfl, fun j hj => by rw [← Go.WideShapes.add_plain]; exact h j hj⟩

/-- What the walks ask of it. -/
theorem open_bools {W : World} {H : Type} {enc : TypeId × Value → H} {a0 : Option Addr} {len cap : Nat} {d : DataW H} {ps : List MemPlace}
    (h : DataW.Trod enc Tryd.prog W 0 (fun _ => true) true 30 (.slice a0 len cap) d ps) :
    ∃ bs : List Bool, bs.length = len ∧ (a0 = none → len = 0 ∧ cap = 0) ∧ CameB W a0 bs := by
  obtain ⟨fuel, hf⟩ := h
  rcases Go.Deep.open_bools Tryd.underlying30 Tryd.underlying4 Tryd.cells4 hf with ⟨hcs, _⟩ | ⟨x, l, c, B, hcs, _, hl, hm, _, hcell⟩
  · simp [Value.cells] at hcs
    obtain ⟨rfl, rfl, rfl⟩ := hcs
    exact ⟨[], rfl, fun _ => ⟨rfl, rfl⟩, Or.inl rfl⟩
  · simp [Value.cells] at hcs
    obtain ⟨rfl, rfl, rfl⟩ := hcs
    refine ⟨(List.range len).map B, by simp, (fun e => by cases e), ?_⟩
    by_cases h0 : len = 0
    · subst h0; exact Or.inl (by simp)
    · obtain ⟨b, off, rfl, hc⟩ := bools_at hcell (by omega)
      refine Or.inr ⟨b, off, rfl, ?_⟩
      intro j v hv
      simp only [List.getElem?_map, Option.map_eq_some_iff] at hv
      obtain ⟨i, hi, rfl⟩ := hv
      obtain ⟨hj, e⟩ := List.getElem?_eq_some_iff.1 hi
      simp at e hj
      subst e
      exact hc j (by omega)
end Go.Proofs.Qxb6609137aDoor
