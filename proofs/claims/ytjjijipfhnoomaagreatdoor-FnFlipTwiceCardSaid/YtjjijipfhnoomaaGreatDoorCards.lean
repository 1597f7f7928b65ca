/-
  DERIVED. GIVEN WITH THE SEED: THE CARDS: each row of YtjjijipfhnoomaaGreatDoorRows.lean that lists a variable, with what it lists TIED to the program's text (the seventh form; the later family's looks); each row that meets fmt, with fmt's text TOLD by the authors' own Lean function (tested against real Go, not proved from fmt's source: count such statements apart). THE CARD IS WHAT COUNTS. Prove the row's statement (the work); the ties are given (YtjjijipfhnoomaaGreatDoorTie.lean); close each card by the builder's one call (the guide's Derived/Test/ToyasCard.lean, 'card_holds'). Laid BY PROGRAM, IN A SANDBOX (cutbox-door.mjs). By AI agents, Wed Nov 11 2026. No macro, syntax, notation, axiom, sorry.
-/
import Derived.Test.YtjjijipfhnoomaaGreatDoorRows
import GoSem.ClaimSeven
namespace Go.Proofs.YtjjijipfhnoomaaGreatDoor
namespace Rows

/-- THE TIED CARD OF 'laws.FnAddRange'. -/
def fnAddRangeCard : Claim7 := { stood := { row := fnAddRangeRow, standIns := [], harness := (true, "0d0644a69a4f0b3cb4e762fd54391ebf884d8d752ec567f03922d97dafdd97df"), looks := true }, kinds := [], alts := [], laidByText := true, laidKinds := [.data], laidTests := true, laidLooks := .later }
def FnAddRangeCardSaid : Prop := Claim7.holds Tryz.pinned (.plain (OpenSpec.ofChange fnAddRangeSpec)) fnAddRangeCard

/-- THE TIED CARD OF 'laws.FnFlipTwice'. -/
def fnFlipTwiceCard : Claim7 := { stood := { row := fnFlipTwiceRow, standIns := [], harness := (true, "0d0644a69a4f0b3cb4e762fd54391ebf884d8d752ec567f03922d97dafdd97df"), looks := true }, kinds := [], alts := [], laidByText := true, laidKinds := [.data], laidTests := true, laidLooks := .later }
def FnFlipTwiceCardSaid : Prop := Claim7.holds Tryz.pinned (.plain (OpenSpec.ofChange fnFlipTwiceSpec)) fnFlipTwiceCard

/-- THE TIED CARD OF 'laws.FnRun'. -/
def fnRunCard : Claim7 := { stood := { row := fnRunRow, standIns := [], harness := (true, "0d0644a69a4f0b3cb4e762fd54391ebf884d8d752ec567f03922d97dafdd97df"), looks := true }, kinds := [], alts := [], laidByText := true, laidKinds := [.data], laidTests := true, laidLooks := .later }
def FnRunCardSaid : Prop := Claim7.holds Tryz.pinned (.plain (OpenSpec.ofChange fnRunSpec)) fnRunCard

/-- THE SECOND FORM's CARD OF 'laws.FnAddRange'. -/
def fnAddRangeUptoCard : Claim7 := { stood := { row := fnAddRangeUptoRow, standIns := [], harness := (true, "0d0644a69a4f0b3cb4e762fd54391ebf884d8d752ec567f03922d97dafdd97df"), looks := true }, kinds := [], alts := [], laidByText := true, laidKinds := [.data], laidTests := true, laidLooks := .later }
def FnAddRangeUptoCardSaid : Prop := Claim7.holds Tryz.pinned (.plain (OpenSpec.upto fnAddRangeSpec)) fnAddRangeUptoCard

/-- THE SECOND FORM's CARD OF 'laws.FnFlipTwice'. -/
def fnFlipTwiceUptoCard : Claim7 := { stood := { row := fnFlipTwiceUptoRow, standIns := [], harness := (true, "0d0644a69a4f0b3cb4e762fd54391ebf884d8d752ec567f03922d97dafdd97df"), looks := true }, kinds := [], alts := [], laidByText := true, laidKinds := [.data], laidTests := true, laidLooks := .later }
def FnFlipTwiceUptoCardSaid : Prop := Claim7.holds Tryz.pinned (.plain (OpenSpec.upto fnFlipTwiceSpec)) fnFlipTwiceUptoCard

/-- THE SECOND FORM's CARD OF 'laws.FnRun'. -/
def fnRunUptoCard : Claim7 := { stood := { row := fnRunUptoRow, standIns := [], harness := (true, "0d0644a69a4f0b3cb4e762fd54391ebf884d8d752ec567f03922d97dafdd97df"), looks := true }, kinds := [], alts := [], laidByText := true, laidKinds := [.data], laidTests := true, laidLooks := .later }
def FnRunUptoCardSaid : Prop := Claim7.holds Tryz.pinned (.plain (OpenSpec.upto fnRunSpec)) fnRunUptoCard
end Rows
end Go.Proofs.YtjjijipfhnoomaaGreatDoor
