/-
  WHAT EVERY ROW OF THE SEAT SHARES: the listed variables' condition, opened; a start that meets it; a slice of bytes that came in.
-/
import Derived.Test.Qxb6609137aDoorBounds
import Derived.WalkKit
import Derived.ProofKit
import Derived.OpenShut
import Derived.ShutString
import Derived.ChangeOld
import Derived.Below
import Derived.LaidMore
import Derived.Stop.LaidErr
import Derived.Stop.Joined
namespace Go.Proofs.Qxb6609137aDoor
open Go.ChangeShapes Go.WideShapes Go.ChangeAt Go.RowKit

theorem Tryd.own : ownKnob Tryd.prog.godebug = none := by kernel_rfl
theorem Tryd.laidOut : laidOutB Tryd.prog = true := by kernel_rfl
theorem Tryd.gEOF : Tryd.prog.globalNamed "io.EOF" = some 0 := by kernel_rfl
theorem Tryd.gEOFType : (Tryd.prog.globals[0]?).map (·.type) = some 48 := by kernel_rfl
theorem Tryd.cells84 : Tryd.prog.cellsOf 84 = 1 := by kernel_rfl
theorem Tryd.cells9 : Tryd.prog.cellsOf 9 = 1 := by kernel_rfl

/-- What every row of the seat lists. -/
def laid3 : List (String × DataW Unit) := [("io.EOF", Rows.laid_io_EOF), ("io.ErrNoProgress", Rows.laid_io_ErrNoProgress), ("bufio.errNegativeRead", Rows.laid_bufio_errNegativeRead)]

theorem door_met (os : Os) (args : Array Value) : laidMetH Tryd.prog laid3 ((World.doorLaid Tryd.prog 400 os).forCall (fun _ _ => 0) ⟨#[], args, []⟩).memory :=
  laidMetH_of_parts3 (fuel := 8) (laidMet_of_run' 8 (by kernel_rfl) (by kernel_rfl)) (by kernel_rfl) (by kernel_rfl)

/-- The variable io.EOF holds a pointer to an errorString. -/
theorem eof_of_laid {W : World} (h : laidMetH Tryd.prog laid3 W) : ∃ eo, W.cell? ⟨0, 0, none⟩ = some (.iface 63 (.pointer (some eo))) := by
  rw [MakeChecks.laidMetH_plain _ _ _ (by kernel_rfl)] at h
  obtain ⟨a, s, hv, _, _, _⟩ := laid_sentinel h Tryd.gEOF Tryd.gEOFType Tryd.underlying48 (fun u hu => typeName_ptr_named (nm := "errors.errorString") (by kernel_rfl) (by kernel_rfl) (by decide) u (hu.trans (congrArg some (by kernel_rfl)))) Tryd.underlying63 Tryd.underlying84 rfl rfl Tryd.underlying9 Tryd.cells84 Tryd.cells9
  have := World.var?_cell Tryd.gEOF hv 0
  exact ⟨a, by simpa using this⟩

theorem Tryd.cells5 : Tryd.prog.cellsOf 5 = 1 := by kernel_rfl

/-- A slice of bytes that came in, opened: what the walks ask of it. -/
theorem open_bytes {W : World} {H : Type} {enc : TypeId × Value → H} {a0 : Option Addr} {len cap : Nat} {d : DataW H} {ps : List MemPlace}
    (h : DataW.Trod enc Tryd.prog W 0 (fun _ => true) true 22 (.slice a0 len cap) d ps) :
    ∃ xs : List Int, xs.length = len ∧ (a0 = none → len = 0 ∧ cap = 0) ∧ (∀ v ∈ xs, 0 ≤ v ∧ v ≤ 255) ∧ Came W a0 xs := by
  obtain ⟨fuel, hf⟩ := h
  rcases open_ints Tryd.underlying22 Tryd.underlying5 Tryd.cells5 hf with ⟨hcs, _⟩ | ⟨x, l, c, zs, hcs, _, hl, hm, hz, _, hcell, hwz⟩
  · simp [Value.cells] at hcs
    obtain ⟨rfl, rfl, rfl⟩ := hcs
    exact ⟨[], rfl, fun _ => ⟨rfl, rfl⟩, by simp, Or.inl rfl⟩
  · simp [Value.cells] at hcs
    obtain ⟨rfl, rfl, rfl⟩ := hcs
    have hzl : zs.length = cap := by simpa using hz
    refine ⟨zs.take len, by simp; omega, (fun e => by cases e), ?_, ?_⟩
    · intro v hv
      have := hwz v (List.mem_of_mem_take hv)
      exact bounds_u8 this
    · by_cases h0 : len = 0
      · subst h0; exact Or.inl (by simp)
      · obtain ⟨b, off, rfl, hc⟩ := ints_at hcell (by omega)
        refine Or.inr ⟨b, off, rfl, ?_⟩
        intro j v hv
        rw [List.getElem?_take] at hv
        split at hv
        · have hj : j < zs.length := (List.getElem?_eq_some_iff.1 hv).1
          rw [hc j hj, List.getD_eq_getElem?_getD, hv]; rfl
        · cases hv
end Go.Proofs.Qxb6609137aDoor
