/-
  DERIVED. GIVEN WITH THE SEED: THE CARDS: each row of YtgohhikcmajmoaaGreatDoorRows.lean that lists a variable, with what it lists TIED to the program's text (the seventh form; the later family's looks); each row that meets fmt, with fmt's text TOLD by the authors' own Lean function (tested against real Go, not proved from fmt's source: count such statements apart). THE CARD IS WHAT COUNTS. Prove the row's statement (the work); the ties are given (YtgohhikcmajmoaaGreatDoorTie.lean); close each card by the builder's one call (the guide's Derived/Test/ToyasCard.lean, 'card_holds'). Laid BY PROGRAM, IN A SANDBOX (cutbox-door.mjs). By AI agents, Wed Nov 11 2026. No macro, syntax, notation, axiom, sorry.
-/
import Derived.Test.YtgohhikcmajmoaaGreatDoorRows
import GoSem.ClaimSeven
namespace Go.Proofs.YtgohhikcmajmoaaGreatDoor
namespace Rows

/-- THE TIED CARD OF 'laws.FnAddOne'. -/
def fnAddOneCard : Claim7 := { stood := { row := fnAddOneRow, standIns := [], harness := (true, "bbbddb35e7211e97c8a311d5489dcd78ad8d757b3f9469a88129d5b2bf5021c5"), looks := true }, kinds := [], alts := [], laidByText := true, laidKinds := [.data], laidTests := true, laidLooks := .later }
def FnAddOneCardSaid : Prop := Claim7.holds Tryz.pinned (.plain (OpenSpec.ofChange fnAddOneSpec)) fnAddOneCard

/-- THE SECOND FORM's CARD OF 'laws.FnAddOne'. -/
def fnAddOneUptoCard : Claim7 := { stood := { row := fnAddOneUptoRow, standIns := [], harness := (true, "bbbddb35e7211e97c8a311d5489dcd78ad8d757b3f9469a88129d5b2bf5021c5"), looks := true }, kinds := [], alts := [], laidByText := true, laidKinds := [.data], laidTests := true, laidLooks := .later }
def FnAddOneUptoCardSaid : Prop := Claim7.holds Tryz.pinned (.plain (OpenSpec.upto fnAddOneSpec)) fnAddOneUptoCard
end Rows
end Go.Proofs.YtgohhikcmajmoaaGreatDoor
