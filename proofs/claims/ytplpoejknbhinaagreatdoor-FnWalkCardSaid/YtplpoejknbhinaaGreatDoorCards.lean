/-
  DERIVED. GIVEN WITH THE SEED: THE CARDS: each row of YtplpoejknbhinaaGreatDoorRows.lean that lists a variable, with what it lists TIED to the program's text (the seventh form; the later family's looks); each row that meets fmt, with fmt's text TOLD by the authors' own Lean function (tested against real Go, not proved from fmt's source: count such statements apart). THE CARD IS WHAT COUNTS. Prove the row's statement (the work); the ties are given (YtplpoejknbhinaaGreatDoorTie.lean); close each card by the builder's one call (the guide's Derived/Test/ToyasCard.lean, 'card_holds'). Laid BY PROGRAM, IN A SANDBOX (cutbox-door.mjs). By AI agents, Wed Nov 11 2026. No macro, syntax, notation, axiom, sorry.
-/
import Derived.Test.YtplpoejknbhinaaGreatDoorRows
import GoSem.ClaimSeven
namespace Go.Proofs.YtplpoejknbhinaaGreatDoor
namespace Rows

/-- THE TIED CARD OF 'laws.FnWalk'. -/
def fnWalkCard : Claim7 := { stood := { row := fnWalkRow, standIns := [], harness := (true, "a3774aba55232cf0bebe5fa515d87b0d4b081bf4dbb0f2a2dac39004078f9544"), looks := true }, kinds := [], alts := [], laidByText := true, laidKinds := [.data], laidTests := true, laidLooks := .later }
def FnWalkCardSaid : Prop := Claim7.holds Tryz.pinned (.plain (OpenSpec.ofChange fnWalkSpec)) fnWalkCard

/-- THE SECOND FORM's CARD OF 'laws.FnWalk'. -/
def fnWalkUptoCard : Claim7 := { stood := { row := fnWalkUptoRow, standIns := [], harness := (true, "a3774aba55232cf0bebe5fa515d87b0d4b081bf4dbb0f2a2dac39004078f9544"), looks := true }, kinds := [], alts := [], laidByText := true, laidKinds := [.data], laidTests := true, laidLooks := .later }
def FnWalkUptoCardSaid : Prop := Claim7.holds Tryz.pinned (.plain (OpenSpec.upto fnWalkSpec)) fnWalkUptoCard
end Rows
end Go.Proofs.YtplpoejknbhinaaGreatDoor
