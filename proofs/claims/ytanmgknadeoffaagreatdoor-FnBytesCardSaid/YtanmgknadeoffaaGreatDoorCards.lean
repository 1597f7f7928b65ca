/-
  DERIVED. GIVEN WITH THE SEED: THE CARDS: each row of YtanmgknadeoffaaGreatDoorRows.lean that lists a variable, with what it lists TIED to the program's text (the seventh form; the later family's looks); each row that meets fmt, with fmt's text TOLD by the authors' own Lean function (tested against real Go, not proved from fmt's source: count such statements apart). THE CARD IS WHAT COUNTS. Prove the row's statement (the work); the ties are given (YtanmgknadeoffaaGreatDoorTie.lean); close each card by the builder's one call (the guide's Derived/Test/ToyasCard.lean, 'card_holds'). Laid BY PROGRAM, IN A SANDBOX (cutbox-door.mjs). By AI agents, Wed Nov 11 2026. No macro, syntax, notation, axiom, sorry.
-/
import Derived.Test.YtanmgknadeoffaaGreatDoorRows
import GoSem.ClaimSeven
namespace Go.Proofs.YtanmgknadeoffaaGreatDoor
namespace Rows

/-- THE TIED CARD OF 'laws.FnBytes'. -/
def fnBytesCard : Claim7 := { stood := { row := fnBytesRow, standIns := [], harness := (true, "27b40ffe837bf6462e0c5d85f9927fc83dbf08002ab401536dbd01fa6c8ea611"), looks := true }, kinds := [], alts := [], laidByText := true, laidKinds := [.data], laidTests := true, laidLooks := .later }
def FnBytesCardSaid : Prop := Claim7.holds Tryz.pinned (.plain (OpenSpec.ofChange fnBytesSpec)) fnBytesCard

/-- THE TIED CARD OF 'laws.FnBytesBack'. -/
def fnBytesBackCard : Claim7 := { stood := { row := fnBytesBackRow, standIns := [], harness := (true, "27b40ffe837bf6462e0c5d85f9927fc83dbf08002ab401536dbd01fa6c8ea611"), looks := true }, kinds := [], alts := [], laidByText := true, laidKinds := [.data], laidTests := true, laidLooks := .later }
def FnBytesBackCardSaid : Prop := Claim7.holds Tryz.pinned (.plain (OpenSpec.ofChange fnBytesBackSpec)) fnBytesBackCard

/-- THE TIED CARD OF 'laws.FnCut'. -/
def fnCutCard : Claim7 := { stood := { row := fnCutRow, standIns := [], harness := (true, "27b40ffe837bf6462e0c5d85f9927fc83dbf08002ab401536dbd01fa6c8ea611"), looks := true }, kinds := [], alts := [], laidByText := true, laidKinds := [.data], laidTests := true, laidLooks := .later }
def FnCutCardSaid : Prop := Claim7.holds Tryz.pinned (.plain (OpenSpec.ofChange fnCutSpec)) fnCutCard

/-- THE SECOND FORM's CARD OF 'laws.FnBytes'. -/
def fnBytesUptoCard : Claim7 := { stood := { row := fnBytesUptoRow, standIns := [], harness := (true, "27b40ffe837bf6462e0c5d85f9927fc83dbf08002ab401536dbd01fa6c8ea611"), looks := true }, kinds := [], alts := [], laidByText := true, laidKinds := [.data], laidTests := true, laidLooks := .later }
def FnBytesUptoCardSaid : Prop := Claim7.holds Tryz.pinned (.plain (OpenSpec.upto fnBytesSpec)) fnBytesUptoCard

/-- THE SECOND FORM's CARD OF 'laws.FnBytesBack'. -/
def fnBytesBackUptoCard : Claim7 := { stood := { row := fnBytesBackUptoRow, standIns := [], harness := (true, "27b40ffe837bf6462e0c5d85f9927fc83dbf08002ab401536dbd01fa6c8ea611"), looks := true }, kinds := [], alts := [], laidByText := true, laidKinds := [.data], laidTests := true, laidLooks := .later }
def FnBytesBackUptoCardSaid : Prop := Claim7.holds Tryz.pinned (.plain (OpenSpec.upto fnBytesBackSpec)) fnBytesBackUptoCard

/-- THE SECOND FORM's CARD OF 'laws.FnCut'. -/
def fnCutUptoCard : Claim7 := { stood := { row := fnCutUptoRow, standIns := [], harness := (true, "27b40ffe837bf6462e0c5d85f9927fc83dbf08002ab401536dbd01fa6c8ea611"), looks := true }, kinds := [], alts := [], laidByText := true, laidKinds := [.data], laidTests := true, laidLooks := .later }
def FnCutUptoCardSaid : Prop := Claim7.holds Tryz.pinned (.plain (OpenSpec.upto fnCutSpec)) fnCutUptoCard
end Rows
end Go.Proofs.YtanmgknadeoffaaGreatDoor
