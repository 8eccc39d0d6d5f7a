/-
  DERIVED. GIVEN WITH THE SEED: THE CARDS: each row of YtnefafkdfcmmfaaGreatDoorRows.lean that lists a variable, with what it lists TIED to the program's text (the seventh form; the later family's looks); each row that meets fmt, with fmt's text TOLD by the authors' own Lean function (tested against real Go, not proved from fmt's source: count such statements apart). THE CARD IS WHAT COUNTS. Prove the row's statement (the work); the ties are given (YtnefafkdfcmmfaaGreatDoorTie.lean); close each card by the builder's one call (the guide's Derived/Test/ToyasCard.lean, 'card_holds'). Laid BY PROGRAM, IN A SANDBOX (cutbox-door.mjs). By AI agents, Wed Nov 11 2026. No macro, syntax, notation, axiom, sorry.
-/
import Derived.Test.YtnefafkdfcmmfaaGreatDoorRows
import GoSem.ClaimSeven
namespace Go.Proofs.YtnefafkdfcmmfaaGreatDoor
namespace Rows

/-- THE TIED CARD OF 'laws.FnMade'. -/
def fnMadeCard : Claim7 := { stood := { row := fnMadeRow, standIns := [], harness := (true, "e21bdc594eac4d5b14ee9acd0b77b9bab2c1ac6c3269c6e15df448f8a1d1f9d5"), looks := true }, kinds := [], alts := [], laidByText := true, laidKinds := [.data, .data, .data, .data, .listed, .data, .called, .called, .widerDeep, .zero, .pinned, .pinned], laidTests := true, laidLooks := .later }
def FnMadeCardSaid : Prop := Claim7.holds Tryz.pinned (.plain (OpenSpec.ofChange fnMadeSpec)) fnMadeCard

/-- THE TIED CARD OF 'laws.FnLiteral'. -/
def fnLiteralCard : Claim7 := { stood := { row := fnLiteralRow, standIns := [], harness := (true, "e21bdc594eac4d5b14ee9acd0b77b9bab2c1ac6c3269c6e15df448f8a1d1f9d5"), looks := true }, kinds := [], alts := [], laidByText := true, laidKinds := [.data, .data, .data], laidTests := true, laidLooks := .later }
def FnLiteralCardSaid : Prop := Claim7.holds Tryz.pinned (.plain (OpenSpec.ofChange fnLiteralSpec)) fnLiteralCard

/-- THE TIED CARD OF 'laws.FnCommon'. -/
def fnCommonCard : Claim7 := { stood := { row := fnCommonRow, standIns := [], harness := (true, "e21bdc594eac4d5b14ee9acd0b77b9bab2c1ac6c3269c6e15df448f8a1d1f9d5"), looks := true }, kinds := [], alts := [], laidByText := true, laidKinds := [.data, .data, .data], laidTests := true, laidLooks := .later }
def FnCommonCardSaid : Prop := Claim7.holds Tryz.pinned (.plain (OpenSpec.ofChange fnCommonSpec)) fnCommonCard

/-- THE TIED CARD OF 'laws.FnEmpty'. -/
def fnEmptyCard : Claim7 := { stood := { row := fnEmptyRow, standIns := [], harness := (true, "e21bdc594eac4d5b14ee9acd0b77b9bab2c1ac6c3269c6e15df448f8a1d1f9d5"), looks := true }, kinds := [], alts := [], laidByText := true, laidKinds := [.data, .data, .data], laidTests := true, laidLooks := .later }
def FnEmptyCardSaid : Prop := Claim7.holds Tryz.pinned (.plain (OpenSpec.ofChange fnEmptySpec)) fnEmptyCard

/-- THE SECOND FORM's CARD OF 'laws.FnMade'. -/
def fnMadeUptoCard : Claim7 := { stood := { row := fnMadeUptoRow, standIns := [], harness := (true, "e21bdc594eac4d5b14ee9acd0b77b9bab2c1ac6c3269c6e15df448f8a1d1f9d5"), looks := true }, kinds := [], alts := [], laidByText := true, laidKinds := [.data, .data, .data, .data, .listed, .data, .called, .called, .widerDeep, .zero, .pinned, .pinned], laidTests := true, laidLooks := .later }
def FnMadeUptoCardSaid : Prop := Claim7.holds Tryz.pinned (.plain (OpenSpec.upto fnMadeSpec)) fnMadeUptoCard

/-- THE SECOND FORM's CARD OF 'laws.FnLiteral'. -/
def fnLiteralUptoCard : Claim7 := { stood := { row := fnLiteralUptoRow, standIns := [], harness := (true, "e21bdc594eac4d5b14ee9acd0b77b9bab2c1ac6c3269c6e15df448f8a1d1f9d5"), looks := true }, kinds := [], alts := [], laidByText := true, laidKinds := [.data, .data, .data], laidTests := true, laidLooks := .later }
def FnLiteralUptoCardSaid : Prop := Claim7.holds Tryz.pinned (.plain (OpenSpec.upto fnLiteralSpec)) fnLiteralUptoCard

/-- THE SECOND FORM's CARD OF 'laws.FnCommon'. -/
def fnCommonUptoCard : Claim7 := { stood := { row := fnCommonUptoRow, standIns := [], harness := (true, "e21bdc594eac4d5b14ee9acd0b77b9bab2c1ac6c3269c6e15df448f8a1d1f9d5"), looks := true }, kinds := [], alts := [], laidByText := true, laidKinds := [.data, .data, .data], laidTests := true, laidLooks := .later }
def FnCommonUptoCardSaid : Prop := Claim7.holds Tryz.pinned (.plain (OpenSpec.upto fnCommonSpec)) fnCommonUptoCard

/-- THE SECOND FORM's CARD OF 'laws.FnEmpty'. -/
def fnEmptyUptoCard : Claim7 := { stood := { row := fnEmptyUptoRow, standIns := [], harness := (true, "e21bdc594eac4d5b14ee9acd0b77b9bab2c1ac6c3269c6e15df448f8a1d1f9d5"), looks := true }, kinds := [], alts := [], laidByText := true, laidKinds := [.data, .data, .data], laidTests := true, laidLooks := .later }
def FnEmptyUptoCardSaid : Prop := Claim7.holds Tryz.pinned (.plain (OpenSpec.upto fnEmptySpec)) fnEmptyUptoCard
end Rows
end Go.Proofs.YtnefafkdfcmmfaaGreatDoor
