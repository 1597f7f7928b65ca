/-
  laws.FnOptimize returns true for every input, each argument reads afterwards as before: the tied card: the table math/bits.deBruijn64tab is tied to the program's own text.
-/
import Derived.Test.YtdbadhoapnafbaaGreatDoorKLifO
import Derived.Test.YtdbadhoapnafbaaGreatDoorTie
import Derived.Test.YtdbadhoapnafbaaGreatDoorCards
import Derived.SevenTiedAt
namespace Go.Proofs.YtdbadhoapnafbaaGreatDoor
open Go

theorem fnOptimize_card : Rows.FnOptimizeCardSaid :=
  Claim7.holds_tied_plain_at .later [] [.data] true (true, "73a17e49e94ffe0f60d2a7400d5528a4c82fe8fff02a28b66963b9477c65c33b") true
    fnOptimize.proved (fun _ h => by cases h) (by kernel_rfl) (fun _ h => by cases h) fnOptimize_row_tie rfl ⟨rfl, rfl⟩ (by kernel_rfl) rfl
    (fun f fn hf hfn => by
      obtain rfl : f = 3 := Option.some.inj ((show Tryz.prog.funcNamed "loop.example/pub-g03248/laws.FnOptimize" = some 3 by kernel_rfl).symm.trans hf) |>.symm
      obtain rfl : fn = Tryz.f3 := (Option.some.inj (Tryz.func3.symm.trans hfn)).symm
      exact ⟨by kernel_rfl, fun j t ht => by
        rw [Tryz.params3] at ht
        have h3 : t = 22 ∨ t = 5 := by
          rcases j with _ | _ | j
          · left; simpa using ht.symm
          · right; simpa using ht.symm
          · simp at ht
        rcases h3 with rfl | rfl
        · exact (show Tryz.prog.wantsStandIn 22 = false by kernel_rfl)
        · exact (show Tryz.prog.wantsStandIn 5 = false by kernel_rfl)⟩)
    (by kernel_rfl)
#print axioms fnOptimize_card
end Go.Proofs.YtdbadhoapnafbaaGreatDoor
