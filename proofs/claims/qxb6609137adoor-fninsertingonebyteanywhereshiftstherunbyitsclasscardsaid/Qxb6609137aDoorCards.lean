/-
  DERIVED. GIVEN WITH THE SEED: THE CARDS: each row of Qxb6609137aDoorRows.lean that lists a variable, with what it lists TIED to the program's text (the seventh form; the later family's looks); each row that meets fmt, with fmt's text TOLD by the authors' own Lean function (tested against real Go, not proved from fmt's source: count such statements apart). THE CARD IS WHAT COUNTS. Prove the row's statement (the work); the ties are given (Qxb6609137aDoorTie.lean); close each card by the builder's one call (the guide's Derived/Test/ToyasCard.lean, 'card_holds'). Laid BY PROGRAM, IN A SANDBOX (cutbox-door.mjs). By AI agents, Wed Nov 11 2026. No macro, syntax, notation, axiom, sorry.
-/
import Derived.Test.Qxb6609137aDoorRows
import GoSem.ClaimSeven
namespace Go.Proofs.Qxb6609137aDoor
namespace Rows

/-- THE TIED CARD OF 'zzlaws_pkg_jsonscan_b1.FnReadByteGivesBackTheBodyThenKeepsFailingAtItsEnd'. -/
def fnReadByteGivesBackTheBodyThenKeepsFailingAtItsEndCard : Claim7 := { stood := { row := fnReadByteGivesBackTheBodyThenKeepsFailingAtItsEndRow, standIns := [], harness := (true, "f4aefd4615c4c7d58e83ec859fb834c011dcc838aa86581bc3dbc230f48950af"), looks := true }, kinds := [], alts := [], laidByText := true, laidKinds := [.sentinel, .sentinel, .sentinel], laidTests := true, laidLooks := .later }
def FnReadByteGivesBackTheBodyThenKeepsFailingAtItsEndCardSaid : Prop := Claim7.holds Tryd.pinned (.plain (OpenSpec.ofChange fnReadByteGivesBackTheBodyThenKeepsFailingAtItsEndSpec)) fnReadByteGivesBackTheBodyThenKeepsFailingAtItsEndCard

/-- THE TIED CARD OF 'zzlaws_pkg_jsonscan_b1.FnReadByteAndSkipSpaceShareOneCursor'. -/
def fnReadByteAndSkipSpaceShareOneCursorCard : Claim7 := { stood := { row := fnReadByteAndSkipSpaceShareOneCursorRow, standIns := [], harness := (true, "f4aefd4615c4c7d58e83ec859fb834c011dcc838aa86581bc3dbc230f48950af"), looks := true }, kinds := [], alts := [], laidByText := true, laidKinds := [.sentinel, .sentinel, .sentinel], laidTests := true, laidLooks := .later }
def FnReadByteAndSkipSpaceShareOneCursorCardSaid : Prop := Claim7.holds Tryd.pinned (.plain (OpenSpec.ofChange fnReadByteAndSkipSpaceShareOneCursorSpec)) fnReadByteAndSkipSpaceShareOneCursorCard

/-- THE TIED CARD OF 'zzlaws_pkg_jsonscan_b1.FnSkipSpaceYieldsExactlyTheNonSpaceBytesInOrder'. -/
def fnSkipSpaceYieldsExactlyTheNonSpaceBytesInOrderCard : Claim7 := { stood := { row := fnSkipSpaceYieldsExactlyTheNonSpaceBytesInOrderRow, standIns := [], harness := (true, "f4aefd4615c4c7d58e83ec859fb834c011dcc838aa86581bc3dbc230f48950af"), looks := true }, kinds := [], alts := [], laidByText := true, laidKinds := [.sentinel, .sentinel, .sentinel], laidTests := true, laidLooks := .later }
def FnSkipSpaceYieldsExactlyTheNonSpaceBytesInOrderCardSaid : Prop := Claim7.holds Tryd.pinned (.plain (OpenSpec.ofChange fnSkipSpaceYieldsExactlyTheNonSpaceBytesInOrderSpec)) fnSkipSpaceYieldsExactlyTheNonSpaceBytesInOrderCard

/-- THE TIED CARD OF 'zzlaws_pkg_jsonscan_b1.FnSkipSpaceOverAJoinedBodyIsTheRunsOfItsParts'. -/
def fnSkipSpaceOverAJoinedBodyIsTheRunsOfItsPartsCard : Claim7 := { stood := { row := fnSkipSpaceOverAJoinedBodyIsTheRunsOfItsPartsRow, standIns := [], harness := (true, "f4aefd4615c4c7d58e83ec859fb834c011dcc838aa86581bc3dbc230f48950af"), looks := true }, kinds := [], alts := [], laidByText := true, laidKinds := [.sentinel, .sentinel, .sentinel], laidTests := true, laidLooks := .later }
def FnSkipSpaceOverAJoinedBodyIsTheRunsOfItsPartsCardSaid : Prop := Claim7.holds Tryd.pinned (.plain (OpenSpec.ofChange fnSkipSpaceOverAJoinedBodyIsTheRunsOfItsPartsSpec)) fnSkipSpaceOverAJoinedBodyIsTheRunsOfItsPartsCard

/-- THE TIED CARD OF 'zzlaws_pkg_jsonscan_b1.FnIsJSONSpaceIsWhatSkipSpacePassesOver'. -/
def fnIsJSONSpaceIsWhatSkipSpacePassesOverCard : Claim7 := { stood := { row := fnIsJSONSpaceIsWhatSkipSpacePassesOverRow, standIns := [], harness := (true, "f4aefd4615c4c7d58e83ec859fb834c011dcc838aa86581bc3dbc230f48950af"), looks := true }, kinds := [], alts := [], laidByText := true, laidKinds := [.sentinel, .sentinel, .sentinel], laidTests := true, laidLooks := .later }
def FnIsJSONSpaceIsWhatSkipSpacePassesOverCardSaid : Prop := Claim7.holds Tryd.pinned (.plain (OpenSpec.ofChange fnIsJSONSpaceIsWhatSkipSpacePassesOverSpec)) fnIsJSONSpaceIsWhatSkipSpacePassesOverCard

/-- THE TIED CARD OF 'zzlaws_pkg_jsonscan_b1.FnInsertingOneByteAnywhereShiftsTheRunByItsClass'. -/
def fnInsertingOneByteAnywhereShiftsTheRunByItsClassCard : Claim7 := { stood := { row := fnInsertingOneByteAnywhereShiftsTheRunByItsClassRow, standIns := [], harness := (true, "f4aefd4615c4c7d58e83ec859fb834c011dcc838aa86581bc3dbc230f48950af"), looks := true }, kinds := [], alts := [], laidByText := true, laidKinds := [.sentinel, .sentinel, .sentinel], laidTests := true, laidLooks := .later }
def FnInsertingOneByteAnywhereShiftsTheRunByItsClassCardSaid : Prop := Claim7.holds Tryd.pinned (.plain (OpenSpec.ofChange fnInsertingOneByteAnywhereShiftsTheRunByItsClassSpec)) fnInsertingOneByteAnywhereShiftsTheRunByItsClassCard
end Rows
end Go.Proofs.Qxb6609137aDoor
