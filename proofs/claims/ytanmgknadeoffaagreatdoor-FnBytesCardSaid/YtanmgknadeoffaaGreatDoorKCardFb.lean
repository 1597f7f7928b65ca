/-
  laws.FnBytes returns true for every input, each argument reads afterwards as before: the tied card: the table math/bits.deBruijn64tab is tied to the program's own text.
-/
import Derived.Test.YtanmgknadeoffaaGreatDoorJRowFb
import Derived.Test.YtanmgknadeoffaaGreatDoorTie
import Derived.Test.YtanmgknadeoffaaGreatDoorCards
import Derived.SevenTiedAt
namespace Go.Proofs.YtanmgknadeoffaaGreatDoor
open Go

theorem fnBytes_card : Rows.FnBytesCardSaid :=
  Claim7.holds_tied_plain_at .later [] [.data] true (true, "27b40ffe837bf6462e0c5d85f9927fc83dbf08002ab401536dbd01fa6c8ea611") true
    fnBytes.proved (fun _ h => by cases h) (by kernel_rfl) (fun _ h => by cases h) fnBytes_row_tie rfl ⟨rfl, rfl⟩ (by kernel_rfl) rfl
    (fun f fn hf hfn => by
      obtain rfl : f = 3 := Option.some.inj ((show Tryz.prog.funcNamed "loop.example/pub-g03248/laws.FnBytes" = some 3 by kernel_rfl).symm.trans hf) |>.symm
      obtain rfl : fn = Tryz.f3 := (Option.some.inj (Tryz.func3.symm.trans hfn)).symm
      exact ⟨by kernel_rfl, fun j t ht => by
        rw [Tryz.params3] at ht
        have h3 : t = 22 ∨ t = 5 := by
          rcases j with _ | _ | j
          · left; simpa using ht.symm
          · right; simpa using ht.symm
          · simp at ht
        rcases h3 with rfl | rfl
        · exact (show Tryz.prog.wantsStandIn 22 = false by kernel_rfl)
        · exact (show Tryz.prog.wantsStandIn 5 = false by kernel_rfl)⟩)
    (by kernel_rfl)
#print axioms fnBytes_card
end Go.Proofs.YtanmgknadeoffaaGreatDoor
