/-
  DERIVED. GIVEN WITH THE SEED: THE CARDS: each row of YtpnnbomjbfjgpaaGreatDoorRows.lean that lists a variable, with what it lists TIED to the program's text (the seventh form; the later family's looks); each row that meets fmt, with fmt's text TOLD by the authors' own Lean function (tested against real Go, not proved from fmt's source: count such statements apart). THE CARD IS WHAT COUNTS. Prove the row's statement (the work); the ties are given (YtpnnbomjbfjgpaaGreatDoorTie.lean); close each card by the builder's one call (the guide's Derived/Test/ToyasCard.lean, 'card_holds'). Laid BY PROGRAM, IN A SANDBOX (cutbox-door.mjs). By AI agents, Wed Nov 11 2026. No macro, syntax, notation, axiom, sorry.
-/
import Derived.Test.YtpnnbomjbfjgpaaGreatDoorRows
import GoSem.ClaimSeven
namespace Go.Proofs.YtpnnbomjbfjgpaaGreatDoor
namespace Rows

/-- THE TIED CARD OF 'laws.FnSmaller'. -/
def fnSmallerCard : Claim7 := { stood := { row := fnSmallerRow, standIns := [], harness := (true, "95db5d83e575594593b110376444935a9e010dbd964708f1fae6ec7f98015cfb"), looks := true }, kinds := [], alts := [], laidByText := true, laidKinds := [.data], laidTests := true, laidLooks := .later }
def FnSmallerCardSaid : Prop := Claim7.holds Tryz.pinned (.plain (OpenSpec.ofChange fnSmallerSpec)) fnSmallerCard

/-- THE SECOND FORM's CARD OF 'laws.FnSmaller'. -/
def fnSmallerUptoCard : Claim7 := { stood := { row := fnSmallerUptoRow, standIns := [], harness := (true, "95db5d83e575594593b110376444935a9e010dbd964708f1fae6ec7f98015cfb"), looks := true }, kinds := [], alts := [], laidByText := true, laidKinds := [.data], laidTests := true, laidLooks := .later }
def FnSmallerUptoCardSaid : Prop := Claim7.holds Tryz.pinned (.plain (OpenSpec.upto fnSmallerSpec)) fnSmallerUptoCard
end Rows
end Go.Proofs.YtpnnbomjbfjgpaaGreatDoor
