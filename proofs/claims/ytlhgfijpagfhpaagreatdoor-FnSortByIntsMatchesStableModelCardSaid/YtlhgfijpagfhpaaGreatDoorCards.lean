/-
  DERIVED. GIVEN WITH THE SEED: THE CARDS: each row of YtlhgfijpagfhpaaGreatDoorRows.lean that lists a variable, with what it lists TIED to the program's text (the seventh form; the later family's looks); each row that meets fmt, with fmt's text TOLD by the authors' own Lean function (tested against real Go, not proved from fmt's source: count such statements apart). THE CARD IS WHAT COUNTS. Prove the row's statement (the work); the ties are given (YtlhgfijpagfhpaaGreatDoorTie.lean); close each card by the builder's one call (the guide's Derived/Test/ToyasCard.lean, 'card_holds'). Laid BY PROGRAM, IN A SANDBOX (cutbox-door.mjs). By AI agents, Wed Nov 11 2026. No macro, syntax, notation, axiom, sorry.
-/
import Derived.Test.YtlhgfijpagfhpaaGreatDoorRows
import GoSem.ClaimSeven
namespace Go.Proofs.YtlhgfijpagfhpaaGreatDoor
namespace Rows

/-- THE TIED CARD OF 'n001_46.FnSortByRefusesNonArrays'. -/
def fnSortByRefusesNonArraysCard : Claim7 := { stood := { row := fnSortByRefusesNonArraysRow, standIns := [], harness := (true, "f9d060739e60816fce91ebef8497f2a724d1a8fa8519117ab7cad9e9c0f9654e"), looks := true }, kinds := [], alts := [], laidByText := true, laidKinds := [.data, .data, .widerDeep, .widerDeep, .data, .data, .data, .data, .data, .sentinel, .sentinel, .sentinel, .sentinel, .sentinel, .data, .data, .data, .data, .data, .pinned, .pinned], laidTests := true, laidLooks := .later }
def FnSortByRefusesNonArraysCardSaid : Prop := Claim7.holds Tryz.pinned (.plain (OpenSpec.ofChange fnSortByRefusesNonArraysSpec)) fnSortByRefusesNonArraysCard

/-- THE TIED CARD OF 'n001_46.FnSortIntsMatchesInsertionSort'. -/
def fnSortIntsMatchesInsertionSortCard : Claim7 := { stood := { row := fnSortIntsMatchesInsertionSortRow, standIns := [], harness := (true, "f9d060739e60816fce91ebef8497f2a724d1a8fa8519117ab7cad9e9c0f9654e"), looks := true }, kinds := [], alts := [], laidByText := true, laidKinds := [.data, .data, .widerDeep, .widerDeep, .data, .data, .data, .data, .data, .sentinel, .sentinel, .sentinel, .sentinel, .sentinel, .data, .data, .data, .data, .data, .pinned, .pinned], laidTests := true, laidLooks := .later }
def FnSortIntsMatchesInsertionSortCardSaid : Prop := Claim7.holds Tryz.pinned (.plain (OpenSpec.ofChange fnSortIntsMatchesInsertionSortSpec)) fnSortIntsMatchesInsertionSortCard

/-- THE TIED CARD OF 'n001_46.FnSortIntsIdempotent'. -/
def fnSortIntsIdempotentCard : Claim7 := { stood := { row := fnSortIntsIdempotentRow, standIns := [], harness := (true, "f9d060739e60816fce91ebef8497f2a724d1a8fa8519117ab7cad9e9c0f9654e"), looks := true }, kinds := [], alts := [], laidByText := true, laidKinds := [.data, .data, .widerDeep, .widerDeep, .data, .data, .data, .data, .data, .sentinel, .sentinel, .sentinel, .sentinel, .sentinel, .data, .data, .data, .data, .data, .pinned, .pinned], laidTests := true, laidLooks := .later }
def FnSortIntsIdempotentCardSaid : Prop := Claim7.holds Tryz.pinned (.plain (OpenSpec.ofChange fnSortIntsIdempotentSpec)) fnSortIntsIdempotentCard

/-- THE TIED CARD OF 'n001_46.FnSortByIntsRefusesExactlyLengthMismatch'. -/
def fnSortByIntsRefusesExactlyLengthMismatchCard : Claim7 := { stood := { row := fnSortByIntsRefusesExactlyLengthMismatchRow, standIns := [], harness := (true, "f9d060739e60816fce91ebef8497f2a724d1a8fa8519117ab7cad9e9c0f9654e"), looks := true }, kinds := [], alts := [], laidByText := true, laidKinds := [.data, .data, .widerDeep, .widerDeep, .data, .data, .data, .data, .data, .sentinel, .sentinel, .sentinel, .sentinel, .sentinel, .data, .data, .data, .data, .data, .pinned, .pinned], laidTests := true, laidLooks := .later }
def FnSortByIntsRefusesExactlyLengthMismatchCardSaid : Prop := Claim7.holds Tryz.pinned (.plain (OpenSpec.ofChange fnSortByIntsRefusesExactlyLengthMismatchSpec)) fnSortByIntsRefusesExactlyLengthMismatchCard

/-- THE TIED CARD OF 'n001_46.FnSortByIntsMatchesStableModel'. -/
def fnSortByIntsMatchesStableModelCard : Claim7 := { stood := { row := fnSortByIntsMatchesStableModelRow, standIns := [], harness := (true, "f9d060739e60816fce91ebef8497f2a724d1a8fa8519117ab7cad9e9c0f9654e"), looks := true }, kinds := [], alts := [], laidByText := true, laidKinds := [.data, .data, .widerDeep, .widerDeep, .data, .data, .data, .data, .data, .sentinel, .sentinel, .sentinel, .sentinel, .sentinel, .data, .data, .data, .data, .data, .pinned, .pinned], laidTests := true, laidLooks := .later }
def FnSortByIntsMatchesStableModelCardSaid : Prop := Claim7.holds Tryz.pinned (.plain (OpenSpec.ofChange fnSortByIntsMatchesStableModelSpec)) fnSortByIntsMatchesStableModelCard

/-- THE SECOND FORM's CARD OF 'n001_46.FnSortByRefusesNonArrays'. -/
def fnSortByRefusesNonArraysUptoCard : Claim7 := { stood := { row := fnSortByRefusesNonArraysUptoRow, standIns := [], harness := (true, "f9d060739e60816fce91ebef8497f2a724d1a8fa8519117ab7cad9e9c0f9654e"), looks := true }, kinds := [], alts := [], laidByText := true, laidKinds := [.data, .data, .widerDeep, .widerDeep, .data, .data, .data, .data, .data, .sentinel, .sentinel, .sentinel, .sentinel, .sentinel, .data, .data, .data, .data, .data, .pinned, .pinned], laidTests := true, laidLooks := .later }
def FnSortByRefusesNonArraysUptoCardSaid : Prop := Claim7.holds Tryz.pinned (.plain (OpenSpec.upto fnSortByRefusesNonArraysSpec)) fnSortByRefusesNonArraysUptoCard

/-- THE SECOND FORM's CARD OF 'n001_46.FnSortIntsMatchesInsertionSort'. -/
def fnSortIntsMatchesInsertionSortUptoCard : Claim7 := { stood := { row := fnSortIntsMatchesInsertionSortUptoRow, standIns := [], harness := (true, "f9d060739e60816fce91ebef8497f2a724d1a8fa8519117ab7cad9e9c0f9654e"), looks := true }, kinds := [], alts := [], laidByText := true, laidKinds := [.data, .data, .widerDeep, .widerDeep, .data, .data, .data, .data, .data, .sentinel, .sentinel, .sentinel, .sentinel, .sentinel, .data, .data, .data, .data, .data, .pinned, .pinned], laidTests := true, laidLooks := .later }
def FnSortIntsMatchesInsertionSortUptoCardSaid : Prop := Claim7.holds Tryz.pinned (.plain (OpenSpec.upto fnSortIntsMatchesInsertionSortSpec)) fnSortIntsMatchesInsertionSortUptoCard

/-- THE SECOND FORM's CARD OF 'n001_46.FnSortIntsIdempotent'. -/
def fnSortIntsIdempotentUptoCard : Claim7 := { stood := { row := fnSortIntsIdempotentUptoRow, standIns := [], harness := (true, "f9d060739e60816fce91ebef8497f2a724d1a8fa8519117ab7cad9e9c0f9654e"), looks := true }, kinds := [], alts := [], laidByText := true, laidKinds := [.data, .data, .widerDeep, .widerDeep, .data, .data, .data, .data, .data, .sentinel, .sentinel, .sentinel, .sentinel, .sentinel, .data, .data, .data, .data, .data, .pinned, .pinned], laidTests := true, laidLooks := .later }
def FnSortIntsIdempotentUptoCardSaid : Prop := Claim7.holds Tryz.pinned (.plain (OpenSpec.upto fnSortIntsIdempotentSpec)) fnSortIntsIdempotentUptoCard

/-- THE SECOND FORM's CARD OF 'n001_46.FnSortByIntsRefusesExactlyLengthMismatch'. -/
def fnSortByIntsRefusesExactlyLengthMismatchUptoCard : Claim7 := { stood := { row := fnSortByIntsRefusesExactlyLengthMismatchUptoRow, standIns := [], harness := (true, "f9d060739e60816fce91ebef8497f2a724d1a8fa8519117ab7cad9e9c0f9654e"), looks := true }, kinds := [], alts := [], laidByText := true, laidKinds := [.data, .data, .widerDeep, .widerDeep, .data, .data, .data, .data, .data, .sentinel, .sentinel, .sentinel, .sentinel, .sentinel, .data, .data, .data, .data, .data, .pinned, .pinned], laidTests := true, laidLooks := .later }
def FnSortByIntsRefusesExactlyLengthMismatchUptoCardSaid : Prop := Claim7.holds Tryz.pinned (.plain (OpenSpec.upto fnSortByIntsRefusesExactlyLengthMismatchSpec)) fnSortByIntsRefusesExactlyLengthMismatchUptoCard

/-- THE SECOND FORM's CARD OF 'n001_46.FnSortByIntsMatchesStableModel'. -/
def fnSortByIntsMatchesStableModelUptoCard : Claim7 := { stood := { row := fnSortByIntsMatchesStableModelUptoRow, standIns := [], harness := (true, "f9d060739e60816fce91ebef8497f2a724d1a8fa8519117ab7cad9e9c0f9654e"), looks := true }, kinds := [], alts := [], laidByText := true, laidKinds := [.data, .data, .widerDeep, .widerDeep, .data, .data, .data, .data, .data, .sentinel, .sentinel, .sentinel, .sentinel, .sentinel, .data, .data, .data, .data, .data, .pinned, .pinned], laidTests := true, laidLooks := .later }
def FnSortByIntsMatchesStableModelUptoCardSaid : Prop := Claim7.holds Tryz.pinned (.plain (OpenSpec.upto fnSortByIntsMatchesStableModelSpec)) fnSortByIntsMatchesStableModelUptoCard
end Rows
end Go.Proofs.YtlhgfijpagfhpaaGreatDoor
