/-
  DERIVED. GIVEN WITH THE SEED: THE CARDS: each row of YtlhgfijpagfhpabGreatDoorRows.lean that lists a variable, with what it lists TIED to the program's text (the seventh form; the later family's looks); each row that meets fmt, with fmt's text TOLD by the authors' own Lean function (tested against real Go, not proved from fmt's source: count such statements apart). THE CARD IS WHAT COUNTS. Prove the row's statement (the work); the ties are given (YtlhgfijpagfhpabGreatDoorTie.lean); close each card by the builder's one call (the guide's Derived/Test/ToyasCard.lean, 'card_holds'). Laid BY PROGRAM, IN A SANDBOX (cutbox-door.mjs). By AI agents, Wed Nov 11 2026. No macro, syntax, notation, axiom, sorry.
-/
import Derived.Test.YtlhgfijpagfhpabGreatDoorRows
import GoSem.ClaimSeven
namespace Go.Proofs.YtlhgfijpagfhpabGreatDoor
namespace Rows

/-- THE TIED CARD OF 'n001_46.FnSortByNameFreeAgreesWithSortAndSortBy'. -/
def fnSortByNameFreeAgreesWithSortAndSortByCard : Claim7 := { stood := { row := fnSortByNameFreeAgreesWithSortAndSortByRow, standIns := [], harness := (true, "5e46583f47df1f0164af2c9f85a5ed1e9308615aefc757925046aa4dc901cc67"), looks := true }, kinds := [], alts := [], laidByText := true, laidKinds := [.data, .data, .widerDeep, .widerDeep, .data, .data, .data, .data, .data, .sentinel, .sentinel, .sentinel, .sentinel, .sentinel, .data, .data, .data, .data, .data, .pinned, .pinned], laidTests := true, laidLooks := .later }
def FnSortByNameFreeAgreesWithSortAndSortByCardSaid : Prop := Claim7.holds Tryz.pinned (.plain (OpenSpec.ofChange fnSortByNameFreeAgreesWithSortAndSortBySpec)) fnSortByNameFreeAgreesWithSortAndSortByCard

/-- THE TIED CARD OF 'n001_46.FnSortItemsMatchesStablePairModel'. -/
def fnSortItemsMatchesStablePairModelCard : Claim7 := { stood := { row := fnSortItemsMatchesStablePairModelRow, standIns := [], harness := (true, "5e46583f47df1f0164af2c9f85a5ed1e9308615aefc757925046aa4dc901cc67"), looks := true }, kinds := [], alts := [], laidByText := true, laidKinds := [.data, .data, .widerDeep, .widerDeep, .data, .data, .data, .data, .data, .sentinel, .sentinel, .sentinel, .sentinel, .sentinel, .data, .data, .data, .data, .data, .pinned, .pinned], laidTests := true, laidLooks := .later }
def FnSortItemsMatchesStablePairModelCardSaid : Prop := Claim7.holds Tryz.pinned (.plain (OpenSpec.ofChange fnSortItemsMatchesStablePairModelSpec)) fnSortItemsMatchesStablePairModelCard

/-- THE TIED CARD OF 'n001_24.FnArgFunc2CallsFWithTwoArgs'. -/
def fnArgFunc2CallsFWithTwoArgsCard : Claim7 := { stood := { row := fnArgFunc2CallsFWithTwoArgsRow, standIns := [], harness := (true, "5e46583f47df1f0164af2c9f85a5ed1e9308615aefc757925046aa4dc901cc67"), looks := true }, kinds := [], alts := [], laidByText := true, laidKinds := [.data, .data, .widerDeep, .widerDeep, .data, .data, .data, .data, .data, .sentinel, .sentinel, .sentinel, .sentinel, .sentinel, .data, .data, .data, .data, .data, .pinned, .pinned], laidTests := true, laidLooks := .later }
def FnArgFunc2CallsFWithTwoArgsCardSaid : Prop := Claim7.holds Tryz.pinned (.plain (OpenSpec.ofChange fnArgFunc2CallsFWithTwoArgsSpec)) fnArgFunc2CallsFWithTwoArgsCard

/-- THE SECOND FORM's CARD OF 'n001_46.FnSortByNameFreeAgreesWithSortAndSortBy'. -/
def fnSortByNameFreeAgreesWithSortAndSortByUptoCard : Claim7 := { stood := { row := fnSortByNameFreeAgreesWithSortAndSortByUptoRow, standIns := [], harness := (true, "5e46583f47df1f0164af2c9f85a5ed1e9308615aefc757925046aa4dc901cc67"), looks := true }, kinds := [], alts := [], laidByText := true, laidKinds := [.data, .data, .widerDeep, .widerDeep, .data, .data, .data, .data, .data, .sentinel, .sentinel, .sentinel, .sentinel, .sentinel, .data, .data, .data, .data, .data, .pinned, .pinned], laidTests := true, laidLooks := .later }
def FnSortByNameFreeAgreesWithSortAndSortByUptoCardSaid : Prop := Claim7.holds Tryz.pinned (.plain (OpenSpec.upto fnSortByNameFreeAgreesWithSortAndSortBySpec)) fnSortByNameFreeAgreesWithSortAndSortByUptoCard

/-- THE SECOND FORM's CARD OF 'n001_46.FnSortItemsMatchesStablePairModel'. -/
def fnSortItemsMatchesStablePairModelUptoCard : Claim7 := { stood := { row := fnSortItemsMatchesStablePairModelUptoRow, standIns := [], harness := (true, "5e46583f47df1f0164af2c9f85a5ed1e9308615aefc757925046aa4dc901cc67"), looks := true }, kinds := [], alts := [], laidByText := true, laidKinds := [.data, .data, .widerDeep, .widerDeep, .data, .data, .data, .data, .data, .sentinel, .sentinel, .sentinel, .sentinel, .sentinel, .data, .data, .data, .data, .data, .pinned, .pinned], laidTests := true, laidLooks := .later }
def FnSortItemsMatchesStablePairModelUptoCardSaid : Prop := Claim7.holds Tryz.pinned (.plain (OpenSpec.upto fnSortItemsMatchesStablePairModelSpec)) fnSortItemsMatchesStablePairModelUptoCard

/-- THE SECOND FORM's CARD OF 'n001_24.FnArgFunc2CallsFWithTwoArgs'. -/
def fnArgFunc2CallsFWithTwoArgsUptoCard : Claim7 := { stood := { row := fnArgFunc2CallsFWithTwoArgsUptoRow, standIns := [], harness := (true, "5e46583f47df1f0164af2c9f85a5ed1e9308615aefc757925046aa4dc901cc67"), looks := true }, kinds := [], alts := [], laidByText := true, laidKinds := [.data, .data, .widerDeep, .widerDeep, .data, .data, .data, .data, .data, .sentinel, .sentinel, .sentinel, .sentinel, .sentinel, .data, .data, .data, .data, .data, .pinned, .pinned], laidTests := true, laidLooks := .later }
def FnArgFunc2CallsFWithTwoArgsUptoCardSaid : Prop := Claim7.holds Tryz.pinned (.plain (OpenSpec.upto fnArgFunc2CallsFWithTwoArgsSpec)) fnArgFunc2CallsFWithTwoArgsUptoCard
end Rows
end Go.Proofs.YtlhgfijpagfhpabGreatDoor
