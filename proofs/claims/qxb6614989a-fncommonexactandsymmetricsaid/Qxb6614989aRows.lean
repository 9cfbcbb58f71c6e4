/-
  No cell of these rows narrows 'for every input' (looked for: loops, veiled, ifaces, maps, wideKeys, modest, calm, conditions, laid).
  DERIVED. THE GIVEN ROWS OF THIS SEAT. 2 by the template 'for every input the law returns true; each argument reads behind the call as it read before'; 0 by the template 'total and deterministic' (their statements: Qxb6614989aTotals.lean).
  GIVEN WITH THE SEED: the statements are not yours to turn. If you find one false, say at which input.
  Laid BY PROGRAM, IN A SANDBOX (cutbox-rows.mjs): the forced cells as the released guide's own fill.sh prints them over the translation 9b0500b16bae63e4… (all of the seat's roots in one cut). By AI agents, Wed Nov 11 2026. No macro, syntax, notation, axiom, sorry.
-/
import Derived.Test.Qxb6614989aChecked
import GoSem.Claim
import GoSem.ClaimJoined
import GoSem.ClaimMapViews
import Derived.JoinedTies
import Derived.KernelRfl
namespace Go.Proofs.Qxb6614989a
/- THE CELL 'sum', in the pinned program and in every row, IS THE sha256 OF THE DUMP (.gsa) THAT Qxb6614989aProg.lean LOADS. Nothing in Lean hashes anything: it is a label: what it is worth is what the hold of that sum in a sandbox is worth. -/
noncomputable def Try.pinned : Pinned := { name := "qxb6614989a", sum := "9b0500b16bae63e4c505c479ca13e9c0f66a9936c19bd27b0d4a3a30fde6b89f", checked := Try.checked }
namespace Rows
def none {H : Type} : Left H := { results := [], args := [] }

/-- 'zzlaws_root_b1.FnCommonExactAndSymmetric': WHATEVER THE INPUT: true; the input reads as it did. -/
def fnCommonExactAndSymmetricSpec : ChangeSpec := { name := "fnCommonExactAndSymmetric", fn := fun _ => fun
  | [d1, d2] => { results := [.lit (.bool true)], args := [d1, d2] }
  | _ => none }
def fnCommonExactAndSymmetricRow : OpenClaim := { program := "qxb6614989a", sum := "9b0500b16bae63e4c505c479ca13e9c0f66a9936c19bd27b0d4a3a30fde6b89f", func := "example.com/murmurvote/murmurvote/zzlaws_root_b1.FnCommonExactAndSymmetric", spec := "fnCommonExactAndSymmetric", inPlace := ["internal/reflectlite.ValueOf", "internal/reflectlite.Swapper", "(internal/reflectlite.Value).Len"], unfollowed := true, recurses := true, apart := false }
def FnCommonExactAndSymmetricSaid : Prop := fnCommonExactAndSymmetricRow.holds Try.pinned (OpenSpec.ofChange fnCommonExactAndSymmetricSpec)

/-- ITS FALSE NEIGHBOUR: 'it returns false'. Refute it at one input. -/
def fnCommonExactAndSymmetricWrong : ChangeSpec := { name := "fnCommonExactAndSymmetric", fn := fun _ => fun
  | [d1, d2] => { results := [.lit (.bool false)], args := [d1, d2] }
  | _ => none }
def FnCommonExactAndSymmetricWrongFalsely : Prop := fnCommonExactAndSymmetricRow.holds Try.pinned (OpenSpec.ofChange fnCommonExactAndSymmetricWrong)

/-- 'zzlaws_root_b1.FnCommonPutOne': WHATEVER THE INPUT: true; the input reads as it did. -/
def fnCommonPutOneSpec : ChangeSpec := { name := "fnCommonPutOne", fn := fun _ => fun
  | [d1, d2, d3, d4, d5] => { results := [.lit (.bool true)], args := [d1, d2, d3, d4, d5] }
  | _ => none }
def fnCommonPutOneRow : OpenClaim := { program := "qxb6614989a", sum := "9b0500b16bae63e4c505c479ca13e9c0f66a9936c19bd27b0d4a3a30fde6b89f", func := "example.com/murmurvote/murmurvote/zzlaws_root_b1.FnCommonPutOne", spec := "fnCommonPutOne", inPlace := ["internal/reflectlite.ValueOf", "internal/reflectlite.Swapper", "(internal/reflectlite.Value).Len"], unfollowed := true, recurses := true, apart := false }
def FnCommonPutOneSaid : Prop := fnCommonPutOneRow.holds Try.pinned (OpenSpec.ofChange fnCommonPutOneSpec)

/-- ITS FALSE NEIGHBOUR: 'it returns false'. Refute it at one input. -/
def fnCommonPutOneWrong : ChangeSpec := { name := "fnCommonPutOne", fn := fun _ => fun
  | [d1, d2, d3, d4, d5] => { results := [.lit (.bool false)], args := [d1, d2, d3, d4, d5] }
  | _ => none }
def FnCommonPutOneWrongFalsely : Prop := fnCommonPutOneRow.holds Try.pinned (OpenSpec.ofChange fnCommonPutOneWrong)

end Rows
end Go.Proofs.Qxb6614989a
