/-
  DERIVED. GIVEN WITH THE SEED: THE CARDS: each row of YteagcndpegdojaaGreatDoorRows.lean that lists a variable, with what it lists TIED to the program's text (the seventh form; the later family's looks); each row that meets fmt, with fmt's text TOLD by the authors' own Lean function (tested against real Go, not proved from fmt's source: count such statements apart). THE CARD IS WHAT COUNTS. Prove the row's statement (the work); the ties are given (YteagcndpegdojaaGreatDoorTie.lean); close each card by the builder's one call (the guide's Derived/Test/ToyasCard.lean, 'card_holds'). Laid BY PROGRAM, IN A SANDBOX (cutbox-door.mjs). By AI agents, Wed Nov 11 2026. No macro, syntax, notation, axiom, sorry.
-/
import Derived.Test.YteagcndpegdojaaGreatDoorRows
import GoSem.ClaimSeven
namespace Go.Proofs.YteagcndpegdojaaGreatDoor
namespace Rows

/-- THE TIED CARD OF 'laws.FnRemoveOne'. -/
def fnRemoveOneCard : Claim7 := { stood := { row := fnRemoveOneRow, standIns := [], harness := (true, "11e7c54132774e10f6dc386677dfe2ef362fc424b42090235b587b449c8600b2"), looks := true }, kinds := [], alts := [], laidByText := true, laidKinds := [.data], laidTests := true, laidLooks := .later }
def FnRemoveOneCardSaid : Prop := Claim7.holds Tryz.pinned (.plain (OpenSpec.ofChange fnRemoveOneSpec)) fnRemoveOneCard

/-- THE TIED CARD OF 'laws.FnMany'. -/
def fnManyCard : Claim7 := { stood := { row := fnManyRow, standIns := [], harness := (true, "11e7c54132774e10f6dc386677dfe2ef362fc424b42090235b587b449c8600b2"), looks := true }, kinds := [], alts := [], laidByText := true, laidKinds := [.data], laidTests := true, laidLooks := .later }
def FnManyCardSaid : Prop := Claim7.holds Tryz.pinned (.plain (OpenSpec.ofChange fnManySpec)) fnManyCard

/-- THE SECOND FORM's CARD OF 'laws.FnRemoveOne'. -/
def fnRemoveOneUptoCard : Claim7 := { stood := { row := fnRemoveOneUptoRow, standIns := [], harness := (true, "11e7c54132774e10f6dc386677dfe2ef362fc424b42090235b587b449c8600b2"), looks := true }, kinds := [], alts := [], laidByText := true, laidKinds := [.data], laidTests := true, laidLooks := .later }
def FnRemoveOneUptoCardSaid : Prop := Claim7.holds Tryz.pinned (.plain (OpenSpec.upto fnRemoveOneSpec)) fnRemoveOneUptoCard

/-- THE SECOND FORM's CARD OF 'laws.FnMany'. -/
def fnManyUptoCard : Claim7 := { stood := { row := fnManyUptoRow, standIns := [], harness := (true, "11e7c54132774e10f6dc386677dfe2ef362fc424b42090235b587b449c8600b2"), looks := true }, kinds := [], alts := [], laidByText := true, laidKinds := [.data], laidTests := true, laidLooks := .later }
def FnManyUptoCardSaid : Prop := Claim7.holds Tryz.pinned (.plain (OpenSpec.upto fnManySpec)) fnManyUptoCard
end Rows
end Go.Proofs.YteagcndpegdojaaGreatDoor
