/-
  DERIVED. GIVEN WITH THE SEED: THE CARDS: each row of YtfgepnbfideliaaGreatDoorRows.lean that lists a variable, with what it lists TIED to the program's text (the seventh form; the later family's looks); each row that meets fmt, with fmt's text TOLD by the authors' own Lean function (tested against real Go, not proved from fmt's source: count such statements apart). THE CARD IS WHAT COUNTS. Prove the row's statement (the work); the ties are given (YtfgepnbfideliaaGreatDoorTie.lean); close each card by the builder's one call (the guide's Derived/Test/ToyasCard.lean, 'card_holds'). Laid BY PROGRAM, IN A SANDBOX (cutbox-door.mjs). By AI agents, Wed Nov 11 2026. No macro, syntax, notation, axiom, sorry.
-/
import Derived.Test.YtfgepnbfideliaaGreatDoorRows
import GoSem.ClaimSeven
namespace Go.Proofs.YtfgepnbfideliaaGreatDoor
namespace Rows

/-- THE TIED CARD OF 'n001_19.FnSubIntsExact'. -/
def fnSubIntsExactCard : Claim7 := { stood := { row := fnSubIntsExactRow, standIns := [], harness := (true, "0257ba0edee76f8a16352b2f0d37205e710a83f7b0fd31b40ad4554e2ba67029"), looks := true }, kinds := [], alts := [], laidByText := true, laidKinds := [.data, .data, .widerDeep, .widerDeep, .data, .data, .data, .data, .data, .sentinel, .sentinel, .sentinel, .sentinel, .sentinel, .data, .data, .data, .data, .data, .pinned, .pinned], laidTests := true, laidLooks := .later }
def FnSubIntsExactCardSaid : Prop := Claim7.holds Tryz.pinned (.plain (OpenSpec.ofChange fnSubIntsExactSpec)) fnSubIntsExactCard

/-- THE TIED CARD OF 'n001_19.FnSubIntArraysRemovesMembers'. -/
def fnSubIntArraysRemovesMembersCard : Claim7 := { stood := { row := fnSubIntArraysRemovesMembersRow, standIns := [], harness := (true, "0257ba0edee76f8a16352b2f0d37205e710a83f7b0fd31b40ad4554e2ba67029"), looks := true }, kinds := [], alts := [], laidByText := true, laidKinds := [.data, .data, .widerDeep, .widerDeep, .data, .data, .data, .data, .data, .sentinel, .sentinel, .sentinel, .sentinel, .sentinel, .data, .data, .data, .data, .data, .pinned, .pinned], laidTests := true, laidLooks := .later }
def FnSubIntArraysRemovesMembersCardSaid : Prop := Claim7.holds Tryz.pinned (.plain (OpenSpec.ofChange fnSubIntArraysRemovesMembersSpec)) fnSubIntArraysRemovesMembersCard

/-- THE TIED CARD OF 'n001_16.FnIndex2ArrayFloatIndexTruncates'. -/
def fnIndex2ArrayFloatIndexTruncatesCard : Claim7 := { stood := { row := fnIndex2ArrayFloatIndexTruncatesRow, standIns := [], harness := (true, "0257ba0edee76f8a16352b2f0d37205e710a83f7b0fd31b40ad4554e2ba67029"), looks := true }, kinds := [], alts := [], laidByText := true, laidKinds := [.data, .data, .widerDeep, .widerDeep, .data, .data, .data, .data, .data, .sentinel, .sentinel, .sentinel, .sentinel, .sentinel, .data, .data, .data, .data, .data, .pinned, .pinned], laidTests := true, laidLooks := .later }
def FnIndex2ArrayFloatIndexTruncatesCardSaid : Prop := Claim7.holds Tryz.pinned (.plain (OpenSpec.ofChange fnIndex2ArrayFloatIndexTruncatesSpec)) fnIndex2ArrayFloatIndexTruncatesCard

/-- THE TIED CARD OF 'n001_16.FnIndex2ObjectLookup'. -/
def fnIndex2ObjectLookupCard : Claim7 := { stood := { row := fnIndex2ObjectLookupRow, standIns := [], harness := (true, "0257ba0edee76f8a16352b2f0d37205e710a83f7b0fd31b40ad4554e2ba67029"), looks := true }, kinds := [], alts := [], laidByText := true, laidKinds := [.data, .data, .widerDeep, .widerDeep, .data, .data, .data, .data, .data, .sentinel, .sentinel, .sentinel, .sentinel, .sentinel, .data, .data, .data, .data, .data, .pinned, .pinned], laidTests := true, laidLooks := .later }
def FnIndex2ObjectLookupCardSaid : Prop := Claim7.holds Tryz.pinned (.plain (OpenSpec.ofChange fnIndex2ObjectLookupSpec)) fnIndex2ObjectLookupCard

/-- THE TIED CARD OF 'n001_42.FnGetpathNullAndRefusalPersist'. -/
def fnGetpathNullAndRefusalPersistCard : Claim7 := { stood := { row := fnGetpathNullAndRefusalPersistRow, standIns := [], harness := (true, "0257ba0edee76f8a16352b2f0d37205e710a83f7b0fd31b40ad4554e2ba67029"), looks := true }, kinds := [], alts := [], laidByText := true, laidKinds := [.data, .data, .widerDeep, .widerDeep, .data, .data, .data, .data, .data, .sentinel, .sentinel, .sentinel, .sentinel, .sentinel, .data, .data, .data, .data, .data, .pinned, .pinned], laidTests := true, laidLooks := .later }
def FnGetpathNullAndRefusalPersistCardSaid : Prop := Claim7.holds Tryz.pinned (.plain (OpenSpec.ofChange fnGetpathNullAndRefusalPersistSpec)) fnGetpathNullAndRefusalPersistCard

/-- THE SECOND FORM's CARD OF 'n001_19.FnSubIntsExact'. -/
def fnSubIntsExactUptoCard : Claim7 := { stood := { row := fnSubIntsExactUptoRow, standIns := [], harness := (true, "0257ba0edee76f8a16352b2f0d37205e710a83f7b0fd31b40ad4554e2ba67029"), looks := true }, kinds := [], alts := [], laidByText := true, laidKinds := [.data, .data, .widerDeep, .widerDeep, .data, .data, .data, .data, .data, .sentinel, .sentinel, .sentinel, .sentinel, .sentinel, .data, .data, .data, .data, .data, .pinned, .pinned], laidTests := true, laidLooks := .later }
def FnSubIntsExactUptoCardSaid : Prop := Claim7.holds Tryz.pinned (.plain (OpenSpec.upto fnSubIntsExactSpec)) fnSubIntsExactUptoCard

/-- THE SECOND FORM's CARD OF 'n001_19.FnSubIntArraysRemovesMembers'. -/
def fnSubIntArraysRemovesMembersUptoCard : Claim7 := { stood := { row := fnSubIntArraysRemovesMembersUptoRow, standIns := [], harness := (true, "0257ba0edee76f8a16352b2f0d37205e710a83f7b0fd31b40ad4554e2ba67029"), looks := true }, kinds := [], alts := [], laidByText := true, laidKinds := [.data, .data, .widerDeep, .widerDeep, .data, .data, .data, .data, .data, .sentinel, .sentinel, .sentinel, .sentinel, .sentinel, .data, .data, .data, .data, .data, .pinned, .pinned], laidTests := true, laidLooks := .later }
def FnSubIntArraysRemovesMembersUptoCardSaid : Prop := Claim7.holds Tryz.pinned (.plain (OpenSpec.upto fnSubIntArraysRemovesMembersSpec)) fnSubIntArraysRemovesMembersUptoCard

/-- THE SECOND FORM's CARD OF 'n001_16.FnIndex2ArrayFloatIndexTruncates'. -/
def fnIndex2ArrayFloatIndexTruncatesUptoCard : Claim7 := { stood := { row := fnIndex2ArrayFloatIndexTruncatesUptoRow, standIns := [], harness := (true, "0257ba0edee76f8a16352b2f0d37205e710a83f7b0fd31b40ad4554e2ba67029"), looks := true }, kinds := [], alts := [], laidByText := true, laidKinds := [.data, .data, .widerDeep, .widerDeep, .data, .data, .data, .data, .data, .sentinel, .sentinel, .sentinel, .sentinel, .sentinel, .data, .data, .data, .data, .data, .pinned, .pinned], laidTests := true, laidLooks := .later }
def FnIndex2ArrayFloatIndexTruncatesUptoCardSaid : Prop := Claim7.holds Tryz.pinned (.plain (OpenSpec.upto fnIndex2ArrayFloatIndexTruncatesSpec)) fnIndex2ArrayFloatIndexTruncatesUptoCard

/-- THE SECOND FORM's CARD OF 'n001_16.FnIndex2ObjectLookup'. -/
def fnIndex2ObjectLookupUptoCard : Claim7 := { stood := { row := fnIndex2ObjectLookupUptoRow, standIns := [], harness := (true, "0257ba0edee76f8a16352b2f0d37205e710a83f7b0fd31b40ad4554e2ba67029"), looks := true }, kinds := [], alts := [], laidByText := true, laidKinds := [.data, .data, .widerDeep, .widerDeep, .data, .data, .data, .data, .data, .sentinel, .sentinel, .sentinel, .sentinel, .sentinel, .data, .data, .data, .data, .data, .pinned, .pinned], laidTests := true, laidLooks := .later }
def FnIndex2ObjectLookupUptoCardSaid : Prop := Claim7.holds Tryz.pinned (.plain (OpenSpec.upto fnIndex2ObjectLookupSpec)) fnIndex2ObjectLookupUptoCard

/-- THE SECOND FORM's CARD OF 'n001_42.FnGetpathNullAndRefusalPersist'. -/
def fnGetpathNullAndRefusalPersistUptoCard : Claim7 := { stood := { row := fnGetpathNullAndRefusalPersistUptoRow, standIns := [], harness := (true, "0257ba0edee76f8a16352b2f0d37205e710a83f7b0fd31b40ad4554e2ba67029"), looks := true }, kinds := [], alts := [], laidByText := true, laidKinds := [.data, .data, .widerDeep, .widerDeep, .data, .data, .data, .data, .data, .sentinel, .sentinel, .sentinel, .sentinel, .sentinel, .data, .data, .data, .data, .data, .pinned, .pinned], laidTests := true, laidLooks := .later }
def FnGetpathNullAndRefusalPersistUptoCardSaid : Prop := Claim7.holds Tryz.pinned (.plain (OpenSpec.upto fnGetpathNullAndRefusalPersistSpec)) fnGetpathNullAndRefusalPersistUptoCard
end Rows
end Go.Proofs.YtfgepnbfideliaaGreatDoor
