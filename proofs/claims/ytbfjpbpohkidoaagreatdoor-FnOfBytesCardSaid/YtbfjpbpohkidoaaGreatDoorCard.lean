/-
  laws.FnOfBytes returns true for every input, each argument reads afterwards as before: the tied card: the table math/bits.deBruijn64tab is tied to the program's own text.
-/
import Derived.Test.YtbfjpbpohkidoaaGreatDoorLif
import Derived.Test.YtbfjpbpohkidoaaGreatDoorTie
import Derived.Test.YtbfjpbpohkidoaaGreatDoorCards
import Derived.SevenTiedAt
namespace Go.Proofs.YtbfjpbpohkidoaaGreatDoor
open Go

theorem fnOfBytes_card : Rows.FnOfBytesCardSaid :=
  Claim7.holds_tied_plain_at .later [] [.data] true (true, "9b85114aae5481cc493391f3b5d4c9651aa6cb6b15f6cbf2aa68ce378295fd21") true
    fnOfBytes.proved (fun _ h => by cases h) (by kernel_rfl) (fun _ h => by cases h) fnOfBytes_row_tie rfl ⟨rfl, rfl⟩ (by kernel_rfl) rfl
    (fun f fn hf hfn => by
      obtain rfl : f = 3 := Option.some.inj ((show Tryz.prog.funcNamed "loop.example/pub-g03248/laws.FnOfBytes" = some 3 by kernel_rfl).symm.trans hf) |>.symm
      obtain rfl : fn = Tryz.f3 := (Option.some.inj (Tryz.func3.symm.trans hfn)).symm
      exact ⟨by kernel_rfl, fun j t ht => by
        rw [Tryz.params3] at ht
        have h3 : t = 22 ∨ t = 23 := by
          rcases j with _ | _ | j
          · left; simpa using ht.symm
          · right; simpa using ht.symm
          · simp at ht
        rcases h3 with rfl | rfl
        · exact (show Tryz.prog.wantsStandIn 22 = false by kernel_rfl)
        · exact (show Tryz.prog.wantsStandIn 23 = false by kernel_rfl)⟩)
    (by kernel_rfl)
#print axioms fnOfBytes_card
end Go.Proofs.YtbfjpbpohkidoaaGreatDoor
