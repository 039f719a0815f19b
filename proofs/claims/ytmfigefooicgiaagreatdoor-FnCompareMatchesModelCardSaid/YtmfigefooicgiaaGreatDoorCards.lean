/-
  DERIVED. GIVEN WITH THE SEED: THE CARDS: each row of YtmfigefooicgiaaGreatDoorRows.lean that lists a variable, with what it lists TIED to the program's text (the seventh form; the later family's looks); each row that meets fmt, with fmt's text TOLD by the authors' own Lean function (tested against real Go, not proved from fmt's source: count such statements apart). THE CARD IS WHAT COUNTS. Prove the row's statement (the work); the ties are given (YtmfigefooicgiaaGreatDoorTie.lean); close each card by the builder's one call (the guide's Derived/Test/ToyasCard.lean, 'card_holds'). Laid BY PROGRAM, IN A SANDBOX (cutbox-door.mjs). By AI agents, Wed Nov 11 2026. No macro, syntax, notation, axiom, sorry.
-/
import Derived.Test.YtmfigefooicgiaaGreatDoorRows
import GoSem.ClaimSeven
namespace Go.Proofs.YtmfigefooicgiaaGreatDoor
namespace Rows

/-- THE TIED CARD OF 'n001_44.FnTypeIndexOrdersCompare'. -/
def fnTypeIndexOrdersCompareCard : Claim7 := { stood := { row := fnTypeIndexOrdersCompareRow, standIns := [], harness := (true, "3ebb03bfb34d9535f3edf59ac632e5131038dc542807c18f42b27338410144ff"), looks := true }, kinds := [], alts := [], laidByText := true, laidKinds := [.data, .data, .widerDeep, .widerDeep, .data, .data, .data, .data, .data, .sentinel, .sentinel, .sentinel, .sentinel, .sentinel, .data, .data, .data, .data, .data, .pinned, .pinned], laidTests := true, laidLooks := .later }
def FnTypeIndexOrdersCompareCardSaid : Prop := Claim7.holds Tryz.pinned (.plain (OpenSpec.ofChange fnTypeIndexOrdersCompareSpec)) fnTypeIndexOrdersCompareCard

/-- THE TIED CARD OF 'n001_44.FnCompareAntisymmetric'. -/
def fnCompareAntisymmetricCard : Claim7 := { stood := { row := fnCompareAntisymmetricRow, standIns := [], harness := (true, "3ebb03bfb34d9535f3edf59ac632e5131038dc542807c18f42b27338410144ff"), looks := true }, kinds := [], alts := [], laidByText := true, laidKinds := [.data, .data, .widerDeep, .widerDeep, .data, .data, .data, .data, .data, .sentinel, .sentinel, .sentinel, .sentinel, .sentinel, .data, .data, .data, .data, .data, .pinned, .pinned], laidTests := true, laidLooks := .later }
def FnCompareAntisymmetricCardSaid : Prop := Claim7.holds Tryz.pinned (.plain (OpenSpec.ofChange fnCompareAntisymmetricSpec)) fnCompareAntisymmetricCard

/-- THE TIED CARD OF 'n001_44.FnCompareMatchesModel'. -/
def fnCompareMatchesModelCard : Claim7 := { stood := { row := fnCompareMatchesModelRow, standIns := [], harness := (true, "3ebb03bfb34d9535f3edf59ac632e5131038dc542807c18f42b27338410144ff"), looks := true }, kinds := [], alts := [], laidByText := true, laidKinds := [.data, .data, .widerDeep, .widerDeep, .data, .data, .data, .data, .data, .sentinel, .sentinel, .sentinel, .sentinel, .sentinel, .data, .data, .data, .data, .data, .pinned, .pinned], laidTests := true, laidLooks := .later }
def FnCompareMatchesModelCardSaid : Prop := Claim7.holds Tryz.pinned (.plain (OpenSpec.ofChange fnCompareMatchesModelSpec)) fnCompareMatchesModelCard

/-- THE SECOND FORM's CARD OF 'n001_44.FnTypeIndexOrdersCompare'. -/
def fnTypeIndexOrdersCompareUptoCard : Claim7 := { stood := { row := fnTypeIndexOrdersCompareUptoRow, standIns := [], harness := (true, "3ebb03bfb34d9535f3edf59ac632e5131038dc542807c18f42b27338410144ff"), looks := true }, kinds := [], alts := [], laidByText := true, laidKinds := [.data, .data, .widerDeep, .widerDeep, .data, .data, .data, .data, .data, .sentinel, .sentinel, .sentinel, .sentinel, .sentinel, .data, .data, .data, .data, .data, .pinned, .pinned], laidTests := true, laidLooks := .later }
def FnTypeIndexOrdersCompareUptoCardSaid : Prop := Claim7.holds Tryz.pinned (.plain (OpenSpec.upto fnTypeIndexOrdersCompareSpec)) fnTypeIndexOrdersCompareUptoCard

/-- THE SECOND FORM's CARD OF 'n001_44.FnCompareAntisymmetric'. -/
def fnCompareAntisymmetricUptoCard : Claim7 := { stood := { row := fnCompareAntisymmetricUptoRow, standIns := [], harness := (true, "3ebb03bfb34d9535f3edf59ac632e5131038dc542807c18f42b27338410144ff"), looks := true }, kinds := [], alts := [], laidByText := true, laidKinds := [.data, .data, .widerDeep, .widerDeep, .data, .data, .data, .data, .data, .sentinel, .sentinel, .sentinel, .sentinel, .sentinel, .data, .data, .data, .data, .data, .pinned, .pinned], laidTests := true, laidLooks := .later }
def FnCompareAntisymmetricUptoCardSaid : Prop := Claim7.holds Tryz.pinned (.plain (OpenSpec.upto fnCompareAntisymmetricSpec)) fnCompareAntisymmetricUptoCard

/-- THE SECOND FORM's CARD OF 'n001_44.FnCompareMatchesModel'. -/
def fnCompareMatchesModelUptoCard : Claim7 := { stood := { row := fnCompareMatchesModelUptoRow, standIns := [], harness := (true, "3ebb03bfb34d9535f3edf59ac632e5131038dc542807c18f42b27338410144ff"), looks := true }, kinds := [], alts := [], laidByText := true, laidKinds := [.data, .data, .widerDeep, .widerDeep, .data, .data, .data, .data, .data, .sentinel, .sentinel, .sentinel, .sentinel, .sentinel, .data, .data, .data, .data, .data, .pinned, .pinned], laidTests := true, laidLooks := .later }
def FnCompareMatchesModelUptoCardSaid : Prop := Claim7.holds Tryz.pinned (.plain (OpenSpec.upto fnCompareMatchesModelSpec)) fnCompareMatchesModelUptoCard
end Rows
end Go.Proofs.YtmfigefooicgiaaGreatDoor
