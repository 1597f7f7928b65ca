/-
  laws.FnFlipTwice returns true for every input, each argument reads afterwards as before: the tied card: the table math/bits.deBruijn64tab is tied to the program's own text.
-/
import Derived.Test.YtjjijipfhnoomaaGreatDoorKLifFt
import Derived.Test.YtjjijipfhnoomaaGreatDoorTie
import Derived.Test.YtjjijipfhnoomaaGreatDoorCards
import Derived.SevenTiedAt
namespace Go.Proofs.YtjjijipfhnoomaaGreatDoor
open Go

theorem fnFlipTwice_card : Rows.FnFlipTwiceCardSaid :=
  Claim7.holds_tied_plain_at .later [] [.data] true (true, "0d0644a69a4f0b3cb4e762fd54391ebf884d8d752ec567f03922d97dafdd97df") true
    fnFlipTwice.proved (fun _ h => by cases h) (by kernel_rfl) (fun _ h => by cases h) fnFlipTwice_row_tie rfl ⟨rfl, rfl⟩ (by kernel_rfl) rfl
    (fun f fn hf hfn => by
      obtain rfl : f = 4 := Option.some.inj ((show Tryz.prog.funcNamed "loop.example/pub-g03248/laws.FnFlipTwice" = some 4 by kernel_rfl).symm.trans hf) |>.symm
      obtain rfl : fn = Tryz.f4 := (Option.some.inj (Tryz.func4.symm.trans hfn)).symm
      exact ⟨by kernel_rfl, fun j t ht => by
        rw [Tryz.params4] at ht
        have h3 : t = 22 ∨ t = 23 ∨ t = 5 := by
          rcases j with _ | _ | _ | _ | j
          · left; simpa using ht.symm
          · right; left; simpa using ht.symm
          · right; left; simpa using ht.symm
          · right; right; simpa using ht.symm
          · simp at ht
        rcases h3 with rfl | rfl | rfl
        · exact (show Tryz.prog.wantsStandIn 22 = false by kernel_rfl)
        · exact (show Tryz.prog.wantsStandIn 23 = false by kernel_rfl)
        · exact (show Tryz.prog.wantsStandIn 5 = false by kernel_rfl)⟩)
    (by kernel_rfl)
#print axioms fnFlipTwice_card
end Go.Proofs.YtjjijipfhnoomaaGreatDoor
