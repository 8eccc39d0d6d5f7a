/-
  DERIVED. GIVEN WITH THE SEED: THE CARDS: each row of YtedniebpabfglaaGreatDoorRows.lean that lists a variable, with what it lists TIED to the program's text (the seventh form; the later family's looks); each row that meets fmt, with fmt's text TOLD by the authors' own Lean function (tested against real Go, not proved from fmt's source: count such statements apart). THE CARD IS WHAT COUNTS. Prove the row's statement (the work); the ties are given (YtedniebpabfglaaGreatDoorTie.lean); close each card by the builder's one call (the guide's Derived/Test/ToyasCard.lean, 'card_holds'). Laid BY PROGRAM, IN A SANDBOX (cutbox-door.mjs). By AI agents, Wed Nov 11 2026. No macro, syntax, notation, axiom, sorry.
-/
import Derived.Test.YtedniebpabfglaaGreatDoorRows
import GoSem.ClaimSeven
namespace Go.Proofs.YtedniebpabfglaaGreatDoor
namespace Rows

/-- THE TIED CARD OF 'laws.FnMade'. -/
def fnMadeCard : Claim7 := { stood := { row := fnMadeRow, standIns := [], harness := (true, "06dda92501a70633d9d473ba69b8c84d9608670cc8d8dbbeedb3379e03b009e6"), looks := false }, kinds := [], alts := [], laidByText := true, laidKinds := [.data, .data, .data, .data, .listed, .data, .called, .called, .widerDeep, .zero, .pinned, .pinned], laidTests := true, laidLooks := .later }
def FnMadeCardSaid : Prop := Claim7.holds Tryz.pinned (.plain (OpenSpec.ofChange fnMadeSpec)) fnMadeCard

/-- THE SECOND FORM's CARD OF 'laws.FnMade'. -/
def fnMadeUptoCard : Claim7 := { stood := { row := fnMadeUptoRow, standIns := [], harness := (true, "06dda92501a70633d9d473ba69b8c84d9608670cc8d8dbbeedb3379e03b009e6"), looks := false }, kinds := [], alts := [], laidByText := true, laidKinds := [.data, .data, .data, .data, .listed, .data, .called, .called, .widerDeep, .zero, .pinned, .pinned], laidTests := true, laidLooks := .later }
def FnMadeUptoCardSaid : Prop := Claim7.holds Tryz.pinned (.plain (OpenSpec.upto fnMadeSpec)) fnMadeUptoCard
end Rows
end Go.Proofs.YtedniebpabfglaaGreatDoor
