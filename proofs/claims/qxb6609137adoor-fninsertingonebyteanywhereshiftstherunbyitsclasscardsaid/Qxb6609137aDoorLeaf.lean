/-
  The leaf functions of the seat: isJSONSpace, jsonWhitespace, ZZisJSONSpace, ZZoffset.
-/
import Derived.Test.Qxb6609137aDoorRows
import Derived.WalkKit
import Derived.WalkSpells
import Derived.WalkLawsBesides
import Derived.Deep.QuietTactic
import Derived.BigQuiet
namespace Go.Proofs.Qxb6609137aDoor
open Go.RowKit

/-- The four bytes that JSON calls whitespace. -/
def wsB (n : Int) : Bool := n == 32 || n == 9 || n == 10 || n == 13

theorem ret_bool {a b : Bool} (h : a = b) : Ending.returned (.bool a) = .returned (.bool b) := by rw [h]

set_option maxHeartbeats 400000 in
theorem isSpace_any (n : Int) (w : World) :
    Calls Tryd.prog 28 #[.int .u8 n] w fun e w' => e = .returned (.bool (wsB n)) ∧ w = w' := by
  go_enter Tryd.func28, Tryd.ntmps28
  go_wp2
  all_goals go_ret
  all_goals exact ⟨ret_bool (by simp [wsB, *]), rfl⟩

set_option maxHeartbeats 400000 in
theorem jsonWs_any (n : Int) (w : World) :
    Calls Tryd.prog 16 #[.int .u8 n] w fun e w' => e = .returned (.bool (wsB n)) ∧ w = w' := by
  go_enter Tryd.func16, Tryd.ntmps16
  go_wp2
  all_goals go_ret
  all_goals exact ⟨ret_bool (by simp [wsB, *]), rfl⟩

set_option maxHeartbeats 400000 in
theorem zzIsSpace_any (n : Int) (w : World) :
    Calls Tryd.prog 22 #[.int .u8 n] w fun e w' => e = .returned (.bool (wsB n)) ∧ w = w' := by
  go_enter Tryd.func22, Tryd.ntmps22
  go_wp2_with (go_at_call 28; refine (isSpace_any _ _).mono ?_; rintro e w' ⟨rfl, rfl⟩)
  go_ret
  exact ⟨rfl, rfl⟩

set_option maxHeartbeats 400000 in
theorem zzOffset_any (sb : Nat) (off : Int) (w : World) (h : w.cell? ⟨sb, 1, none⟩ = some (.int .i64 off)) :
    Calls Tryd.prog 12 #[.pointer (some ⟨sb, 0, none⟩)] w fun e w' => e = .returned (.int .i64 off) ∧ w = w' := by
  go_enter Tryd.func12, Tryd.ntmps12
  go_wp2
  go_ret
  exact ⟨rfl, rfl⟩
end Go.Proofs.Qxb6609137aDoor
