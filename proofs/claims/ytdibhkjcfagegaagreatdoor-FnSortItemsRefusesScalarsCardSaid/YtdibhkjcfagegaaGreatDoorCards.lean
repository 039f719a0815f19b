/-
  DERIVED. GIVEN WITH THE SEED: THE CARDS: each row of YtdibhkjcfagegaaGreatDoorRows.lean that lists a variable, with what it lists TIED to the program's text (the seventh form; the later family's looks); each row that meets fmt, with fmt's text TOLD by the authors' own Lean function (tested against real Go, not proved from fmt's source: count such statements apart). THE CARD IS WHAT COUNTS. Prove the row's statement (the work); the ties are given (YtdibhkjcfagegaaGreatDoorTie.lean); close each card by the builder's one call (the guide's Derived/Test/ToyasCard.lean, 'card_holds'). Laid BY PROGRAM, IN A SANDBOX (cutbox-door.mjs). By AI agents, Wed Nov 11 2026. No macro, syntax, notation, axiom, sorry.
-/
import Derived.Test.YtdibhkjcfagegaaGreatDoorRows
import GoSem.ClaimSeven
namespace Go.Proofs.YtdibhkjcfagegaaGreatDoor
namespace Rows

/-- THE TIED CARD OF 'n001_24.FnArgFunc2Arity'. -/
def fnArgFunc2ArityCard : Claim7 := { stood := { row := fnArgFunc2ArityRow, standIns := [], harness := (true, "9f69da07934ea50f848e2c7f6a2c18305176c3bfb5bc1b3de9d8c96b74133108"), looks := true }, kinds := [], alts := [], laidByText := true, laidKinds := [.data, .data, .widerDeep, .widerDeep, .data, .data, .data, .data, .data, .sentinel, .sentinel, .sentinel, .sentinel, .sentinel, .data, .data, .data, .data, .data, .pinned, .pinned], laidTests := true, laidLooks := .later }
def FnArgFunc2ArityCardSaid : Prop := Claim7.holds Tryz.pinned (.plain (OpenSpec.ofChange fnArgFunc2AritySpec)) fnArgFunc2ArityCard

/-- THE TIED CARD OF 'n001_46.FnSortItemsRefusesScalars'. -/
def fnSortItemsRefusesScalarsCard : Claim7 := { stood := { row := fnSortItemsRefusesScalarsRow, standIns := [], harness := (true, "9f69da07934ea50f848e2c7f6a2c18305176c3bfb5bc1b3de9d8c96b74133108"), looks := true }, kinds := [], alts := [], laidByText := true, laidKinds := [.data, .data, .widerDeep, .widerDeep, .data, .data, .data, .data, .data, .sentinel, .sentinel, .sentinel, .sentinel, .sentinel, .data, .data, .data, .data, .data, .pinned, .pinned], laidTests := true, laidLooks := .later }
def FnSortItemsRefusesScalarsCardSaid : Prop := Claim7.holds Tryz.pinned (.plain (OpenSpec.ofChange fnSortItemsRefusesScalarsSpec)) fnSortItemsRefusesScalarsCard

/-- THE TIED CARD OF 'n001_24.FnArgFunc2CallsFWithTwoArgs'. -/
def fnArgFunc2CallsFWithTwoArgsCard : Claim7 := { stood := { row := fnArgFunc2CallsFWithTwoArgsRow, standIns := [], harness := (true, "9f69da07934ea50f848e2c7f6a2c18305176c3bfb5bc1b3de9d8c96b74133108"), looks := true }, kinds := [], alts := [], laidByText := true, laidKinds := [.data, .data, .widerDeep, .widerDeep, .data, .data, .data, .data, .data, .sentinel, .sentinel, .sentinel, .sentinel, .sentinel, .data, .data, .data, .data, .data, .pinned, .pinned], laidTests := true, laidLooks := .later }
def FnArgFunc2CallsFWithTwoArgsCardSaid : Prop := Claim7.holds Tryz.pinned (.plain (OpenSpec.ofChange fnArgFunc2CallsFWithTwoArgsSpec)) fnArgFunc2CallsFWithTwoArgsCard

/-- THE TIED CARD OF 'n001_46.FnSortByRefusesNonArrays'. -/
def fnSortByRefusesNonArraysCard : Claim7 := { stood := { row := fnSortByRefusesNonArraysRow, standIns := [], harness := (true, "9f69da07934ea50f848e2c7f6a2c18305176c3bfb5bc1b3de9d8c96b74133108"), looks := true }, kinds := [], alts := [], laidByText := true, laidKinds := [.data, .data, .widerDeep, .widerDeep, .data, .data, .data, .data, .data, .sentinel, .sentinel, .sentinel, .sentinel, .sentinel, .data, .data, .data, .data, .data, .pinned, .pinned], laidTests := true, laidLooks := .later }
def FnSortByRefusesNonArraysCardSaid : Prop := Claim7.holds Tryz.pinned (.plain (OpenSpec.ofChange fnSortByRefusesNonArraysSpec)) fnSortByRefusesNonArraysCard

/-- THE TIED CARD OF 'n001_46.FnSortByIntsRefusesExactlyLengthMismatch'. -/
def fnSortByIntsRefusesExactlyLengthMismatchCard : Claim7 := { stood := { row := fnSortByIntsRefusesExactlyLengthMismatchRow, standIns := [], harness := (true, "9f69da07934ea50f848e2c7f6a2c18305176c3bfb5bc1b3de9d8c96b74133108"), looks := true }, kinds := [], alts := [], laidByText := true, laidKinds := [.data, .data, .widerDeep, .widerDeep, .data, .data, .data, .data, .data, .sentinel, .sentinel, .sentinel, .sentinel, .sentinel, .data, .data, .data, .data, .data, .pinned, .pinned], laidTests := true, laidLooks := .later }
def FnSortByIntsRefusesExactlyLengthMismatchCardSaid : Prop := Claim7.holds Tryz.pinned (.plain (OpenSpec.ofChange fnSortByIntsRefusesExactlyLengthMismatchSpec)) fnSortByIntsRefusesExactlyLengthMismatchCard

/-- THE TIED CARD OF 'n001_46.FnSortIntsIdempotent'. -/
def fnSortIntsIdempotentCard : Claim7 := { stood := { row := fnSortIntsIdempotentRow, standIns := [], harness := (true, "9f69da07934ea50f848e2c7f6a2c18305176c3bfb5bc1b3de9d8c96b74133108"), looks := true }, kinds := [], alts := [], laidByText := true, laidKinds := [.data, .data, .widerDeep, .widerDeep, .data, .data, .data, .data, .data, .sentinel, .sentinel, .sentinel, .sentinel, .sentinel, .data, .data, .data, .data, .data, .pinned, .pinned], laidTests := true, laidLooks := .later }
def FnSortIntsIdempotentCardSaid : Prop := Claim7.holds Tryz.pinned (.plain (OpenSpec.ofChange fnSortIntsIdempotentSpec)) fnSortIntsIdempotentCard

/-- THE TIED CARD OF 'n001_46.FnSortIntsMatchesInsertionSort'. -/
def fnSortIntsMatchesInsertionSortCard : Claim7 := { stood := { row := fnSortIntsMatchesInsertionSortRow, standIns := [], harness := (true, "9f69da07934ea50f848e2c7f6a2c18305176c3bfb5bc1b3de9d8c96b74133108"), looks := true }, kinds := [], alts := [], laidByText := true, laidKinds := [.data, .data, .widerDeep, .widerDeep, .data, .data, .data, .data, .data, .sentinel, .sentinel, .sentinel, .sentinel, .sentinel, .data, .data, .data, .data, .data, .pinned, .pinned], laidTests := true, laidLooks := .later }
def FnSortIntsMatchesInsertionSortCardSaid : Prop := Claim7.holds Tryz.pinned (.plain (OpenSpec.ofChange fnSortIntsMatchesInsertionSortSpec)) fnSortIntsMatchesInsertionSortCard

/-- THE TIED CARD OF 'n001_46.FnSortItemsMatchesStablePairModel'. -/
def fnSortItemsMatchesStablePairModelCard : Claim7 := { stood := { row := fnSortItemsMatchesStablePairModelRow, standIns := [], harness := (true, "9f69da07934ea50f848e2c7f6a2c18305176c3bfb5bc1b3de9d8c96b74133108"), looks := true }, kinds := [], alts := [], laidByText := true, laidKinds := [.data, .data, .widerDeep, .widerDeep, .data, .data, .data, .data, .data, .sentinel, .sentinel, .sentinel, .sentinel, .sentinel, .data, .data, .data, .data, .data, .pinned, .pinned], laidTests := true, laidLooks := .later }
def FnSortItemsMatchesStablePairModelCardSaid : Prop := Claim7.holds Tryz.pinned (.plain (OpenSpec.ofChange fnSortItemsMatchesStablePairModelSpec)) fnSortItemsMatchesStablePairModelCard

/-- THE TIED CARD OF 'n001_46.FnSortByNameFreeAgreesWithSortAndSortBy'. -/
def fnSortByNameFreeAgreesWithSortAndSortByCard : Claim7 := { stood := { row := fnSortByNameFreeAgreesWithSortAndSortByRow, standIns := [], harness := (true, "9f69da07934ea50f848e2c7f6a2c18305176c3bfb5bc1b3de9d8c96b74133108"), looks := true }, kinds := [], alts := [], laidByText := true, laidKinds := [.data, .data, .widerDeep, .widerDeep, .data, .data, .data, .data, .data, .sentinel, .sentinel, .sentinel, .sentinel, .sentinel, .data, .data, .data, .data, .data, .pinned, .pinned], laidTests := true, laidLooks := .later }
def FnSortByNameFreeAgreesWithSortAndSortByCardSaid : Prop := Claim7.holds Tryz.pinned (.plain (OpenSpec.ofChange fnSortByNameFreeAgreesWithSortAndSortBySpec)) fnSortByNameFreeAgreesWithSortAndSortByCard

/-- THE TIED CARD OF 'n001_46.FnSortByIntsMatchesStableModel'. -/
def fnSortByIntsMatchesStableModelCard : Claim7 := { stood := { row := fnSortByIntsMatchesStableModelRow, standIns := [], harness := (true, "9f69da07934ea50f848e2c7f6a2c18305176c3bfb5bc1b3de9d8c96b74133108"), looks := true }, kinds := [], alts := [], laidByText := true, laidKinds := [.data, .data, .widerDeep, .widerDeep, .data, .data, .data, .data, .data, .sentinel, .sentinel, .sentinel, .sentinel, .sentinel, .data, .data, .data, .data, .data, .pinned, .pinned], laidTests := true, laidLooks := .later }
def FnSortByIntsMatchesStableModelCardSaid : Prop := Claim7.holds Tryz.pinned (.plain (OpenSpec.ofChange fnSortByIntsMatchesStableModelSpec)) fnSortByIntsMatchesStableModelCard

/-- THE SECOND FORM's CARD OF 'n001_24.FnArgFunc2Arity'. -/
def fnArgFunc2ArityUptoCard : Claim7 := { stood := { row := fnArgFunc2ArityUptoRow, standIns := [], harness := (true, "9f69da07934ea50f848e2c7f6a2c18305176c3bfb5bc1b3de9d8c96b74133108"), looks := true }, kinds := [], alts := [], laidByText := true, laidKinds := [.data, .data, .widerDeep, .widerDeep, .data, .data, .data, .data, .data, .sentinel, .sentinel, .sentinel, .sentinel, .sentinel, .data, .data, .data, .data, .data, .pinned, .pinned], laidTests := true, laidLooks := .later }
def FnArgFunc2ArityUptoCardSaid : Prop := Claim7.holds Tryz.pinned (.plain (OpenSpec.upto fnArgFunc2AritySpec)) fnArgFunc2ArityUptoCard

/-- THE SECOND FORM's CARD OF 'n001_46.FnSortItemsRefusesScalars'. -/
def fnSortItemsRefusesScalarsUptoCard : Claim7 := { stood := { row := fnSortItemsRefusesScalarsUptoRow, standIns := [], harness := (true, "9f69da07934ea50f848e2c7f6a2c18305176c3bfb5bc1b3de9d8c96b74133108"), looks := true }, kinds := [], alts := [], laidByText := true, laidKinds := [.data, .data, .widerDeep, .widerDeep, .data, .data, .data, .data, .data, .sentinel, .sentinel, .sentinel, .sentinel, .sentinel, .data, .data, .data, .data, .data, .pinned, .pinned], laidTests := true, laidLooks := .later }
def FnSortItemsRefusesScalarsUptoCardSaid : Prop := Claim7.holds Tryz.pinned (.plain (OpenSpec.upto fnSortItemsRefusesScalarsSpec)) fnSortItemsRefusesScalarsUptoCard

/-- THE SECOND FORM's CARD OF 'n001_24.FnArgFunc2CallsFWithTwoArgs'. -/
def fnArgFunc2CallsFWithTwoArgsUptoCard : Claim7 := { stood := { row := fnArgFunc2CallsFWithTwoArgsUptoRow, standIns := [], harness := (true, "9f69da07934ea50f848e2c7f6a2c18305176c3bfb5bc1b3de9d8c96b74133108"), looks := true }, kinds := [], alts := [], laidByText := true, laidKinds := [.data, .data, .widerDeep, .widerDeep, .data, .data, .data, .data, .data, .sentinel, .sentinel, .sentinel, .sentinel, .sentinel, .data, .data, .data, .data, .data, .pinned, .pinned], laidTests := true, laidLooks := .later }
def FnArgFunc2CallsFWithTwoArgsUptoCardSaid : Prop := Claim7.holds Tryz.pinned (.plain (OpenSpec.upto fnArgFunc2CallsFWithTwoArgsSpec)) fnArgFunc2CallsFWithTwoArgsUptoCard

/-- THE SECOND FORM's CARD OF 'n001_46.FnSortByRefusesNonArrays'. -/
def fnSortByRefusesNonArraysUptoCard : Claim7 := { stood := { row := fnSortByRefusesNonArraysUptoRow, standIns := [], harness := (true, "9f69da07934ea50f848e2c7f6a2c18305176c3bfb5bc1b3de9d8c96b74133108"), looks := true }, kinds := [], alts := [], laidByText := true, laidKinds := [.data, .data, .widerDeep, .widerDeep, .data, .data, .data, .data, .data, .sentinel, .sentinel, .sentinel, .sentinel, .sentinel, .data, .data, .data, .data, .data, .pinned, .pinned], laidTests := true, laidLooks := .later }
def FnSortByRefusesNonArraysUptoCardSaid : Prop := Claim7.holds Tryz.pinned (.plain (OpenSpec.upto fnSortByRefusesNonArraysSpec)) fnSortByRefusesNonArraysUptoCard

/-- THE SECOND FORM's CARD OF 'n001_46.FnSortByIntsRefusesExactlyLengthMismatch'. -/
def fnSortByIntsRefusesExactlyLengthMismatchUptoCard : Claim7 := { stood := { row := fnSortByIntsRefusesExactlyLengthMismatchUptoRow, standIns := [], harness := (true, "9f69da07934ea50f848e2c7f6a2c18305176c3bfb5bc1b3de9d8c96b74133108"), looks := true }, kinds := [], alts := [], laidByText := true, laidKinds := [.data, .data, .widerDeep, .widerDeep, .data, .data, .data, .data, .data, .sentinel, .sentinel, .sentinel, .sentinel, .sentinel, .data, .data, .data, .data, .data, .pinned, .pinned], laidTests := true, laidLooks := .later }
def FnSortByIntsRefusesExactlyLengthMismatchUptoCardSaid : Prop := Claim7.holds Tryz.pinned (.plain (OpenSpec.upto fnSortByIntsRefusesExactlyLengthMismatchSpec)) fnSortByIntsRefusesExactlyLengthMismatchUptoCard

/-- THE SECOND FORM's CARD OF 'n001_46.FnSortIntsIdempotent'. -/
def fnSortIntsIdempotentUptoCard : Claim7 := { stood := { row := fnSortIntsIdempotentUptoRow, standIns := [], harness := (true, "9f69da07934ea50f848e2c7f6a2c18305176c3bfb5bc1b3de9d8c96b74133108"), looks := true }, kinds := [], alts := [], laidByText := true, laidKinds := [.data, .data, .widerDeep, .widerDeep, .data, .data, .data, .data, .data, .sentinel, .sentinel, .sentinel, .sentinel, .sentinel, .data, .data, .data, .data, .data, .pinned, .pinned], laidTests := true, laidLooks := .later }
def FnSortIntsIdempotentUptoCardSaid : Prop := Claim7.holds Tryz.pinned (.plain (OpenSpec.upto fnSortIntsIdempotentSpec)) fnSortIntsIdempotentUptoCard

/-- THE SECOND FORM's CARD OF 'n001_46.FnSortIntsMatchesInsertionSort'. -/
def fnSortIntsMatchesInsertionSortUptoCard : Claim7 := { stood := { row := fnSortIntsMatchesInsertionSortUptoRow, standIns := [], harness := (true, "9f69da07934ea50f848e2c7f6a2c18305176c3bfb5bc1b3de9d8c96b74133108"), looks := true }, kinds := [], alts := [], laidByText := true, laidKinds := [.data, .data, .widerDeep, .widerDeep, .data, .data, .data, .data, .data, .sentinel, .sentinel, .sentinel, .sentinel, .sentinel, .data, .data, .data, .data, .data, .pinned, .pinned], laidTests := true, laidLooks := .later }
def FnSortIntsMatchesInsertionSortUptoCardSaid : Prop := Claim7.holds Tryz.pinned (.plain (OpenSpec.upto fnSortIntsMatchesInsertionSortSpec)) fnSortIntsMatchesInsertionSortUptoCard

/-- THE SECOND FORM's CARD OF 'n001_46.FnSortItemsMatchesStablePairModel'. -/
def fnSortItemsMatchesStablePairModelUptoCard : Claim7 := { stood := { row := fnSortItemsMatchesStablePairModelUptoRow, standIns := [], harness := (true, "9f69da07934ea50f848e2c7f6a2c18305176c3bfb5bc1b3de9d8c96b74133108"), looks := true }, kinds := [], alts := [], laidByText := true, laidKinds := [.data, .data, .widerDeep, .widerDeep, .data, .data, .data, .data, .data, .sentinel, .sentinel, .sentinel, .sentinel, .sentinel, .data, .data, .data, .data, .data, .pinned, .pinned], laidTests := true, laidLooks := .later }
def FnSortItemsMatchesStablePairModelUptoCardSaid : Prop := Claim7.holds Tryz.pinned (.plain (OpenSpec.upto fnSortItemsMatchesStablePairModelSpec)) fnSortItemsMatchesStablePairModelUptoCard

/-- THE SECOND FORM's CARD OF 'n001_46.FnSortByNameFreeAgreesWithSortAndSortBy'. -/
def fnSortByNameFreeAgreesWithSortAndSortByUptoCard : Claim7 := { stood := { row := fnSortByNameFreeAgreesWithSortAndSortByUptoRow, standIns := [], harness := (true, "9f69da07934ea50f848e2c7f6a2c18305176c3bfb5bc1b3de9d8c96b74133108"), looks := true }, kinds := [], alts := [], laidByText := true, laidKinds := [.data, .data, .widerDeep, .widerDeep, .data, .data, .data, .data, .data, .sentinel, .sentinel, .sentinel, .sentinel, .sentinel, .data, .data, .data, .data, .data, .pinned, .pinned], laidTests := true, laidLooks := .later }
def FnSortByNameFreeAgreesWithSortAndSortByUptoCardSaid : Prop := Claim7.holds Tryz.pinned (.plain (OpenSpec.upto fnSortByNameFreeAgreesWithSortAndSortBySpec)) fnSortByNameFreeAgreesWithSortAndSortByUptoCard

/-- THE SECOND FORM's CARD OF 'n001_46.FnSortByIntsMatchesStableModel'. -/
def fnSortByIntsMatchesStableModelUptoCard : Claim7 := { stood := { row := fnSortByIntsMatchesStableModelUptoRow, standIns := [], harness := (true, "9f69da07934ea50f848e2c7f6a2c18305176c3bfb5bc1b3de9d8c96b74133108"), looks := true }, kinds := [], alts := [], laidByText := true, laidKinds := [.data, .data, .widerDeep, .widerDeep, .data, .data, .data, .data, .data, .sentinel, .sentinel, .sentinel, .sentinel, .sentinel, .data, .data, .data, .data, .data, .pinned, .pinned], laidTests := true, laidLooks := .later }
def FnSortByIntsMatchesStableModelUptoCardSaid : Prop := Claim7.holds Tryz.pinned (.plain (OpenSpec.upto fnSortByIntsMatchesStableModelSpec)) fnSortByIntsMatchesStableModelUptoCard
end Rows
end Go.Proofs.YtdibhkjcfagegaaGreatDoor
