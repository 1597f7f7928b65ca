/-
  laws.FnSmaller returns true for every input, each argument reads afterwards as before: the tied card: the table math/bits.deBruijn64tab is tied to the program's own text.
-/
import Derived.Test.YtpnnbomjbfjgpaaGreatDoorKLifS
import Derived.Test.YtpnnbomjbfjgpaaGreatDoorTie
import Derived.Test.YtpnnbomjbfjgpaaGreatDoorCards
import Derived.SevenTiedAt
namespace Go.Proofs.YtpnnbomjbfjgpaaGreatDoor
open Go

theorem fnSmaller_card : Rows.FnSmallerCardSaid :=
  Claim7.holds_tied_plain_at .later [] [.data] true (true, "95db5d83e575594593b110376444935a9e010dbd964708f1fae6ec7f98015cfb") true
    fnSmaller.proved (fun _ h => by cases h) (by kernel_rfl) (fun _ h => by cases h) fnSmaller_row_tie rfl ⟨rfl, rfl⟩ (by kernel_rfl) rfl
    (fun f fn hf hfn => by
      obtain rfl : f = 3 := Option.some.inj ((show Tryz.prog.funcNamed "loop.example/pub-g03248/laws.FnSmaller" = some 3 by kernel_rfl).symm.trans hf) |>.symm
      obtain rfl : fn = Tryz.f3 := (Option.some.inj (Tryz.func3.symm.trans hfn)).symm
      exact ⟨by kernel_rfl, fun j t ht => by
        rw [Tryz.params3] at ht
        have h3 : t = 22 := by
          rcases j with _ | j
          · simpa using ht.symm
          · simp at ht
        subst h3
        exact (show Tryz.prog.wantsStandIn 22 = false by kernel_rfl)⟩)
    (by kernel_rfl)
#print axioms fnSmaller_card
end Go.Proofs.YtpnnbomjbfjgpaaGreatDoor
