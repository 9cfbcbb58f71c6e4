/-
  NARROWER THAN 'FOR EVERY INPUT', by the rows' own cells (each row's printed sentence says how): FnReadByteGivesBackTheBodyThenKeepsFailingAtItsEnd: laid · FnReadByteAndSkipSpaceShareOneCursor: laid · FnSkipSpaceYieldsExactlyTheNonSpaceBytesInOrder: laid · FnSkipSpaceOverAJoinedBodyIsTheRunsOfItsParts: laid · FnIsJSONSpaceIsWhatSkipSpacePassesOver: laid · FnInsertingOneByteAnywhereShiftsTheRunByItsClass: laid.
  DERIVED. THE GIVEN ROWS OF THIS SEAT. 6 by the template 'for every input the law returns true; each argument reads behind the call as it read before'; 0 by the template 'total and deterministic' (their statements: Qxb6609137aDoorTotals.lean).
  GIVEN WITH THE SEED: the statements are not yours to turn. If you find one false, say at which input.
  Laid BY PROGRAM, IN A SANDBOX (cutbox-rows.mjs): the forced cells as the released guide's own fill.sh prints them over the translation b635ab3cd8cc8ae8… (all of the seat's roots in one cut). By AI agents, Wed Nov 11 2026. No macro, syntax, notation, axiom, sorry.
-/
import Derived.Test.Qxb6609137aDoorChecked
import GoSem.Claim
import GoSem.ClaimJoined
import GoSem.ClaimMapViews
import Derived.JoinedTies
import Derived.KernelRfl
namespace Go.Proofs.Qxb6609137aDoor
/- THE CELL 'sum', in the pinned program and in every row, IS THE sha256 OF THE DUMP (.gsa) THAT Qxb6609137aDoorProg.lean LOADS. Nothing in Lean hashes anything: it is a label: what it is worth is what the hold of that sum in a sandbox is worth. -/
noncomputable def Tryd.pinned : Pinned := { name := "qxb6609137adoor", sum := "b635ab3cd8cc8ae8ccfda7ddd73babfdbe6e6011261efaea40078177285783ec", checked := Tryd.checked }
namespace Rows
def none {H : Type} : Left H := { results := [], args := [] }

/- WHAT THE LISTED PACKAGE-LEVEL VARIABLES READ AS WHEN THE CALL BEGINS. Each datum BY PROGRAM (the guide's laid-datum.mjs) off the statement by which the dump's own 'gosem.cut.vars' lays the variable. In a bare row this is a premise. The card (Qxb6609137aDoorCards.lean) ties it to the program's text. -/
def laid_io_EOF {H : Type} : DataW H := .iface "*errors.errorString" (.ptr (.agg [.lit (.string [69, 79, 70])]))
def laid_io_ErrNoProgress {H : Type} : DataW H := .iface "*errors.errorString" (.ptr (.agg [.lit (.string [109, 117, 108, 116, 105, 112, 108, 101, 32, 82, 101, 97, 100, 32, 99, 97, 108, 108, 115, 32, 114, 101, 116, 117, 114, 110, 32, 110, 111, 32, 100, 97, 116, 97, 32, 111, 114, 32, 101, 114, 114, 111, 114])]))
def laid_bufio_errNegativeRead {H : Type} : DataW H := .iface "*errors.errorString" (.ptr (.agg [.lit (.string [98, 117, 102, 105, 111, 58, 32, 114, 101, 97, 100, 101, 114, 32, 114, 101, 116, 117, 114, 110, 101, 100, 32, 110, 101, 103, 97, 116, 105, 118, 101, 32, 99, 111, 117, 110, 116, 32, 102, 114, 111, 109, 32, 82, 101, 97, 100])]))

/-- 'zzlaws_pkg_jsonscan_b1.FnReadByteGivesBackTheBodyThenKeepsFailingAtItsEnd': WHATEVER THE INPUT: true; the input reads as it did. -/
def fnReadByteGivesBackTheBodyThenKeepsFailingAtItsEndSpec : ChangeSpec := { name := "fnReadByteGivesBackTheBodyThenKeepsFailingAtItsEnd", fn := fun _ => fun
  | [d1, d2, d3] => { results := [.lit (.bool true)], args := [d1, d2, d3] }
  | _ => none }
def fnReadByteGivesBackTheBodyThenKeepsFailingAtItsEndRow : OpenClaim := { program := "qxb6609137adoor", sum := "b635ab3cd8cc8ae8ccfda7ddd73babfdbe6e6011261efaea40078177285783ec", func := "example.com/slatebook/slatebook/zzlaws_pkg_jsonscan_b1.FnReadByteGivesBackTheBodyThenKeepsFailingAtItsEnd", spec := "fnReadByteGivesBackTheBodyThenKeepsFailingAtItsEnd", unfollowed := true, recurses := true, named := ["io.EOF", "bufio.errNegativeRead", "io.ErrNoProgress"], apart := false, laid := [("io.EOF", laid_io_EOF), ("io.ErrNoProgress", laid_io_ErrNoProgress), ("bufio.errNegativeRead", laid_bufio_errNegativeRead)] }
def FnReadByteGivesBackTheBodyThenKeepsFailingAtItsEndSaid : Prop := fnReadByteGivesBackTheBodyThenKeepsFailingAtItsEndRow.holds Tryd.pinned (OpenSpec.ofChange fnReadByteGivesBackTheBodyThenKeepsFailingAtItsEndSpec)

/-- ITS FALSE NEIGHBOUR: 'it returns false'. Refute it at one input. -/
def fnReadByteGivesBackTheBodyThenKeepsFailingAtItsEndWrong : ChangeSpec := { name := "fnReadByteGivesBackTheBodyThenKeepsFailingAtItsEnd", fn := fun _ => fun
  | [d1, d2, d3] => { results := [.lit (.bool false)], args := [d1, d2, d3] }
  | _ => none }
def FnReadByteGivesBackTheBodyThenKeepsFailingAtItsEndWrongFalsely : Prop := fnReadByteGivesBackTheBodyThenKeepsFailingAtItsEndRow.holds Tryd.pinned (OpenSpec.ofChange fnReadByteGivesBackTheBodyThenKeepsFailingAtItsEndWrong)

/-- 'zzlaws_pkg_jsonscan_b1.FnReadByteAndSkipSpaceShareOneCursor': WHATEVER THE INPUT: true; the input reads as it did. -/
def fnReadByteAndSkipSpaceShareOneCursorSpec : ChangeSpec := { name := "fnReadByteAndSkipSpaceShareOneCursor", fn := fun _ => fun
  | [d1, d2, d3] => { results := [.lit (.bool true)], args := [d1, d2, d3] }
  | _ => none }
def fnReadByteAndSkipSpaceShareOneCursorRow : OpenClaim := { program := "qxb6609137adoor", sum := "b635ab3cd8cc8ae8ccfda7ddd73babfdbe6e6011261efaea40078177285783ec", func := "example.com/slatebook/slatebook/zzlaws_pkg_jsonscan_b1.FnReadByteAndSkipSpaceShareOneCursor", spec := "fnReadByteAndSkipSpaceShareOneCursor", unfollowed := true, recurses := true, named := ["io.EOF", "bufio.errNegativeRead", "io.ErrNoProgress"], apart := false, laid := [("io.EOF", laid_io_EOF), ("io.ErrNoProgress", laid_io_ErrNoProgress), ("bufio.errNegativeRead", laid_bufio_errNegativeRead)] }
def FnReadByteAndSkipSpaceShareOneCursorSaid : Prop := fnReadByteAndSkipSpaceShareOneCursorRow.holds Tryd.pinned (OpenSpec.ofChange fnReadByteAndSkipSpaceShareOneCursorSpec)

/-- ITS FALSE NEIGHBOUR: 'it returns false'. Refute it at one input. -/
def fnReadByteAndSkipSpaceShareOneCursorWrong : ChangeSpec := { name := "fnReadByteAndSkipSpaceShareOneCursor", fn := fun _ => fun
  | [d1, d2, d3] => { results := [.lit (.bool false)], args := [d1, d2, d3] }
  | _ => none }
def FnReadByteAndSkipSpaceShareOneCursorWrongFalsely : Prop := fnReadByteAndSkipSpaceShareOneCursorRow.holds Tryd.pinned (OpenSpec.ofChange fnReadByteAndSkipSpaceShareOneCursorWrong)

/-- 'zzlaws_pkg_jsonscan_b1.FnSkipSpaceYieldsExactlyTheNonSpaceBytesInOrder': WHATEVER THE INPUT: true; the input reads as it did. -/
def fnSkipSpaceYieldsExactlyTheNonSpaceBytesInOrderSpec : ChangeSpec := { name := "fnSkipSpaceYieldsExactlyTheNonSpaceBytesInOrder", fn := fun _ => fun
  | [d1, d2] => { results := [.lit (.bool true)], args := [d1, d2] }
  | _ => none }
def fnSkipSpaceYieldsExactlyTheNonSpaceBytesInOrderRow : OpenClaim := { program := "qxb6609137adoor", sum := "b635ab3cd8cc8ae8ccfda7ddd73babfdbe6e6011261efaea40078177285783ec", func := "example.com/slatebook/slatebook/zzlaws_pkg_jsonscan_b1.FnSkipSpaceYieldsExactlyTheNonSpaceBytesInOrder", spec := "fnSkipSpaceYieldsExactlyTheNonSpaceBytesInOrder", unfollowed := true, recurses := true, named := ["io.EOF", "bufio.errNegativeRead", "io.ErrNoProgress"], apart := false, laid := [("io.EOF", laid_io_EOF), ("io.ErrNoProgress", laid_io_ErrNoProgress), ("bufio.errNegativeRead", laid_bufio_errNegativeRead)] }
def FnSkipSpaceYieldsExactlyTheNonSpaceBytesInOrderSaid : Prop := fnSkipSpaceYieldsExactlyTheNonSpaceBytesInOrderRow.holds Tryd.pinned (OpenSpec.ofChange fnSkipSpaceYieldsExactlyTheNonSpaceBytesInOrderSpec)

/-- ITS FALSE NEIGHBOUR: 'it returns false'. Refute it at one input. -/
def fnSkipSpaceYieldsExactlyTheNonSpaceBytesInOrderWrong : ChangeSpec := { name := "fnSkipSpaceYieldsExactlyTheNonSpaceBytesInOrder", fn := fun _ => fun
  | [d1, d2] => { results := [.lit (.bool false)], args := [d1, d2] }
  | _ => none }
def FnSkipSpaceYieldsExactlyTheNonSpaceBytesInOrderWrongFalsely : Prop := fnSkipSpaceYieldsExactlyTheNonSpaceBytesInOrderRow.holds Tryd.pinned (OpenSpec.ofChange fnSkipSpaceYieldsExactlyTheNonSpaceBytesInOrderWrong)

/-- 'zzlaws_pkg_jsonscan_b1.FnSkipSpaceOverAJoinedBodyIsTheRunsOfItsParts': WHATEVER THE INPUT: true; the input reads as it did. -/
def fnSkipSpaceOverAJoinedBodyIsTheRunsOfItsPartsSpec : ChangeSpec := { name := "fnSkipSpaceOverAJoinedBodyIsTheRunsOfItsParts", fn := fun _ => fun
  | [d1, d2, d3] => { results := [.lit (.bool true)], args := [d1, d2, d3] }
  | _ => none }
def fnSkipSpaceOverAJoinedBodyIsTheRunsOfItsPartsRow : OpenClaim := { program := "qxb6609137adoor", sum := "b635ab3cd8cc8ae8ccfda7ddd73babfdbe6e6011261efaea40078177285783ec", func := "example.com/slatebook/slatebook/zzlaws_pkg_jsonscan_b1.FnSkipSpaceOverAJoinedBodyIsTheRunsOfItsParts", spec := "fnSkipSpaceOverAJoinedBodyIsTheRunsOfItsParts", unfollowed := true, recurses := true, named := ["io.EOF", "bufio.errNegativeRead", "io.ErrNoProgress"], apart := false, laid := [("io.EOF", laid_io_EOF), ("io.ErrNoProgress", laid_io_ErrNoProgress), ("bufio.errNegativeRead", laid_bufio_errNegativeRead)] }
def FnSkipSpaceOverAJoinedBodyIsTheRunsOfItsPartsSaid : Prop := fnSkipSpaceOverAJoinedBodyIsTheRunsOfItsPartsRow.holds Tryd.pinned (OpenSpec.ofChange fnSkipSpaceOverAJoinedBodyIsTheRunsOfItsPartsSpec)

/-- ITS FALSE NEIGHBOUR: 'it returns false'. Refute it at one input. -/
def fnSkipSpaceOverAJoinedBodyIsTheRunsOfItsPartsWrong : ChangeSpec := { name := "fnSkipSpaceOverAJoinedBodyIsTheRunsOfItsParts", fn := fun _ => fun
  | [d1, d2, d3] => { results := [.lit (.bool false)], args := [d1, d2, d3] }
  | _ => none }
def FnSkipSpaceOverAJoinedBodyIsTheRunsOfItsPartsWrongFalsely : Prop := fnSkipSpaceOverAJoinedBodyIsTheRunsOfItsPartsRow.holds Tryd.pinned (OpenSpec.ofChange fnSkipSpaceOverAJoinedBodyIsTheRunsOfItsPartsWrong)

/-- 'zzlaws_pkg_jsonscan_b1.FnIsJSONSpaceIsWhatSkipSpacePassesOver': WHATEVER THE INPUT: true; the input reads as it did. -/
def fnIsJSONSpaceIsWhatSkipSpacePassesOverSpec : ChangeSpec := { name := "fnIsJSONSpaceIsWhatSkipSpacePassesOver", fn := fun _ => fun
  | [d1, d2, d3] => { results := [.lit (.bool true)], args := [d1, d2, d3] }
  | _ => none }
def fnIsJSONSpaceIsWhatSkipSpacePassesOverRow : OpenClaim := { program := "qxb6609137adoor", sum := "b635ab3cd8cc8ae8ccfda7ddd73babfdbe6e6011261efaea40078177285783ec", func := "example.com/slatebook/slatebook/zzlaws_pkg_jsonscan_b1.FnIsJSONSpaceIsWhatSkipSpacePassesOver", spec := "fnIsJSONSpaceIsWhatSkipSpacePassesOver", unfollowed := true, recurses := true, named := ["io.EOF", "bufio.errNegativeRead", "io.ErrNoProgress"], apart := false, laid := [("io.EOF", laid_io_EOF), ("io.ErrNoProgress", laid_io_ErrNoProgress), ("bufio.errNegativeRead", laid_bufio_errNegativeRead)] }
def FnIsJSONSpaceIsWhatSkipSpacePassesOverSaid : Prop := fnIsJSONSpaceIsWhatSkipSpacePassesOverRow.holds Tryd.pinned (OpenSpec.ofChange fnIsJSONSpaceIsWhatSkipSpacePassesOverSpec)

/-- ITS FALSE NEIGHBOUR: 'it returns false'. Refute it at one input. -/
def fnIsJSONSpaceIsWhatSkipSpacePassesOverWrong : ChangeSpec := { name := "fnIsJSONSpaceIsWhatSkipSpacePassesOver", fn := fun _ => fun
  | [d1, d2, d3] => { results := [.lit (.bool false)], args := [d1, d2, d3] }
  | _ => none }
def FnIsJSONSpaceIsWhatSkipSpacePassesOverWrongFalsely : Prop := fnIsJSONSpaceIsWhatSkipSpacePassesOverRow.holds Tryd.pinned (OpenSpec.ofChange fnIsJSONSpaceIsWhatSkipSpacePassesOverWrong)

/-- 'zzlaws_pkg_jsonscan_b1.FnInsertingOneByteAnywhereShiftsTheRunByItsClass': WHATEVER THE INPUT: true; the input reads as it did. -/
def fnInsertingOneByteAnywhereShiftsTheRunByItsClassSpec : ChangeSpec := { name := "fnInsertingOneByteAnywhereShiftsTheRunByItsClass", fn := fun _ => fun
  | [d1, d2, d3, d4] => { results := [.lit (.bool true)], args := [d1, d2, d3, d4] }
  | _ => none }
def fnInsertingOneByteAnywhereShiftsTheRunByItsClassRow : OpenClaim := { program := "qxb6609137adoor", sum := "b635ab3cd8cc8ae8ccfda7ddd73babfdbe6e6011261efaea40078177285783ec", func := "example.com/slatebook/slatebook/zzlaws_pkg_jsonscan_b1.FnInsertingOneByteAnywhereShiftsTheRunByItsClass", spec := "fnInsertingOneByteAnywhereShiftsTheRunByItsClass", unfollowed := true, recurses := true, named := ["io.EOF", "bufio.errNegativeRead", "io.ErrNoProgress"], apart := false, laid := [("io.EOF", laid_io_EOF), ("io.ErrNoProgress", laid_io_ErrNoProgress), ("bufio.errNegativeRead", laid_bufio_errNegativeRead)] }
def FnInsertingOneByteAnywhereShiftsTheRunByItsClassSaid : Prop := fnInsertingOneByteAnywhereShiftsTheRunByItsClassRow.holds Tryd.pinned (OpenSpec.ofChange fnInsertingOneByteAnywhereShiftsTheRunByItsClassSpec)

/-- ITS FALSE NEIGHBOUR: 'it returns false'. Refute it at one input. -/
def fnInsertingOneByteAnywhereShiftsTheRunByItsClassWrong : ChangeSpec := { name := "fnInsertingOneByteAnywhereShiftsTheRunByItsClass", fn := fun _ => fun
  | [d1, d2, d3, d4] => { results := [.lit (.bool false)], args := [d1, d2, d3, d4] }
  | _ => none }
def FnInsertingOneByteAnywhereShiftsTheRunByItsClassWrongFalsely : Prop := fnInsertingOneByteAnywhereShiftsTheRunByItsClassRow.holds Tryd.pinned (OpenSpec.ofChange fnInsertingOneByteAnywhereShiftsTheRunByItsClassWrong)

end Rows
end Go.Proofs.Qxb6609137aDoor
