/-
  DERIVED. GIVEN WITH THE SEED: THE CARDS: each row of YtdbadhoapnafbaaGreatDoorRows.lean that lists a variable, with what it lists TIED to the program's text (the seventh form; the later family's looks); each row that meets fmt, with fmt's text TOLD by the authors' own Lean function (tested against real Go, not proved from fmt's source: count such statements apart). THE CARD IS WHAT COUNTS. Prove the row's statement (the work); the ties are given (YtdbadhoapnafbaaGreatDoorTie.lean); close each card by the builder's one call (the guide's Derived/Test/ToyasCard.lean, 'card_holds'). Laid BY PROGRAM, IN A SANDBOX (cutbox-door.mjs). By AI agents, Wed Nov 11 2026. No macro, syntax, notation, axiom, sorry.
-/
import Derived.Test.YtdbadhoapnafbaaGreatDoorRows
import GoSem.ClaimSeven
namespace Go.Proofs.YtdbadhoapnafbaaGreatDoor
namespace Rows

/-- THE TIED CARD OF 'laws.FnOptimize'. -/
def fnOptimizeCard : Claim7 := { stood := { row := fnOptimizeRow, standIns := [], harness := (true, "73a17e49e94ffe0f60d2a7400d5528a4c82fe8fff02a28b66963b9477c65c33b"), looks := true }, kinds := [], alts := [], laidByText := true, laidKinds := [.data], laidTests := true, laidLooks := .later }
def FnOptimizeCardSaid : Prop := Claim7.holds Tryz.pinned (.plain (OpenSpec.ofChange fnOptimizeSpec)) fnOptimizeCard

/-- THE SECOND FORM's CARD OF 'laws.FnOptimize'. -/
def fnOptimizeUptoCard : Claim7 := { stood := { row := fnOptimizeUptoRow, standIns := [], harness := (true, "73a17e49e94ffe0f60d2a7400d5528a4c82fe8fff02a28b66963b9477c65c33b"), looks := true }, kinds := [], alts := [], laidByText := true, laidKinds := [.data], laidTests := true, laidLooks := .later }
def FnOptimizeUptoCardSaid : Prop := Claim7.holds Tryz.pinned (.plain (OpenSpec.upto fnOptimizeSpec)) fnOptimizeUptoCard
end Rows
end Go.Proofs.YtdbadhoapnafbaaGreatDoor
