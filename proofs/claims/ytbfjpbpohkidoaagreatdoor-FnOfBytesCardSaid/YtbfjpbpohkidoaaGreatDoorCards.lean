/-
  DERIVED. GIVEN WITH THE SEED: THE CARDS: each row of YtbfjpbpohkidoaaGreatDoorRows.lean that lists a variable, with what it lists TIED to the program's text (the seventh form; the later family's looks); each row that meets fmt, with fmt's text TOLD by the authors' own Lean function (tested against real Go, not proved from fmt's source: count such statements apart). THE CARD IS WHAT COUNTS. Prove the row's statement (the work); the ties are given (YtbfjpbpohkidoaaGreatDoorTie.lean); close each card by the builder's one call (the guide's Derived/Test/ToyasCard.lean, 'card_holds'). Laid BY PROGRAM, IN A SANDBOX (cutbox-door.mjs). By AI agents, Wed Nov 11 2026. No macro, syntax, notation, axiom, sorry.
-/
import Derived.Test.YtbfjpbpohkidoaaGreatDoorRows
import GoSem.ClaimSeven
namespace Go.Proofs.YtbfjpbpohkidoaaGreatDoor
namespace Rows

/-- THE TIED CARD OF 'laws.FnOfBytes'. -/
def fnOfBytesCard : Claim7 := { stood := { row := fnOfBytesRow, standIns := [], harness := (true, "9b85114aae5481cc493391f3b5d4c9651aa6cb6b15f6cbf2aa68ce378295fd21"), looks := true }, kinds := [], alts := [], laidByText := true, laidKinds := [.data], laidTests := true, laidLooks := .later }
def FnOfBytesCardSaid : Prop := Claim7.holds Tryz.pinned (.plain (OpenSpec.ofChange fnOfBytesSpec)) fnOfBytesCard

/-- THE SECOND FORM's CARD OF 'laws.FnOfBytes'. -/
def fnOfBytesUptoCard : Claim7 := { stood := { row := fnOfBytesUptoRow, standIns := [], harness := (true, "9b85114aae5481cc493391f3b5d4c9651aa6cb6b15f6cbf2aa68ce378295fd21"), looks := true }, kinds := [], alts := [], laidByText := true, laidKinds := [.data], laidTests := true, laidLooks := .later }
def FnOfBytesUptoCardSaid : Prop := Claim7.holds Tryz.pinned (.plain (OpenSpec.upto fnOfBytesSpec)) fnOfBytesUptoCard
end Rows
end Go.Proofs.YtbfjpbpohkidoaaGreatDoor
