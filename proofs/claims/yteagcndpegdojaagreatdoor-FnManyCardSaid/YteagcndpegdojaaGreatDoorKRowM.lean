/-
  laws.FnMany returns true for every input: the row's proof, at the table that its initialiser lays.
-/
import Derived.Test.YteagcndpegdojaaGreatDoorRows
import Derived.Test.YteagcndpegdojaaGreatDoorKFmL
import Derived.WalkKit
import Derived.ProofKit
import Derived.OpenShut
import Derived.ShutString
import Derived.ChangeOld
import Derived.Below
import Derived.LaidMore
import Derived.Deep.SlicePairs
import Derived.Deep.Grids
import Derived.Stop.Joined
namespace Go.Proofs.YteagcndpegdojaaGreatDoor.fnMany
open Go.ChangeShapes Go.WideShapes Go.ChangeAt Go.RowKit Go.Roar Go.Proofs
set_option linter.unusedVariables false

theorem own : ownKnob Tryz.prog.godebug = none := by kernel_rfl
theorem laidOut : laidOutB Tryz.prog = true := by kernel_rfl
theorem gTab : Tryz.prog.globalNamed "math/bits.deBruijn64tab" = some 0 := by kernel_rfl
theorem tTab : (Tryz.prog.globals[0]?).map (·.type) = some 148 := by kernel_rfl
abbrev tabList : List (String × DataW Unit) := [("math/bits.deBruijn64tab", Rows.laid_math_bits_deBruijn64tab)]
theorem datum : (Rows.laid_math_bits_deBruijn64tab : DataW Unit) = .agg (Lib.deBruijn64tab.map fun (n : Nat) => .lit (.int .u8 (n : Int))) := by kernel_rfl
theorem cellsU8 : Tryz.prog.cellsOf 5 = 1 := by kernel_rfl

/-- The start's own heap meets the condition. -/
theorem door_met (os : Os) (args : Array Value) : laidMetH Tryz.prog tabList ((World.doorLaid Tryz.prog 14 os).forCall (fun _ _ => 0) ⟨#[], args, []⟩).memory :=
  laidMetH_of_parts3 (fuel := 8) (laidMet_of_run' 8 (by kernel_rfl) (by kernel_rfl)) (by kernel_rfl) (by kernel_rfl)

/-- What the condition gives the walk: the table's cells. -/
theorem of_laid {W : World} (h : laidMetH Tryz.prog tabList W) : Tab W ∧ 0 < W.heap.size := by
  rw [MakeChecks.laidMetH_plain _ _ _ (by kernel_rfl)] at h
  obtain ⟨ps, ⟨g0, t0, cs0, f0, p0, q0, hg0, ht0, hv0, hd0, _, _⟩, _, _⟩ := h
  obtain rfl := Option.some.inj (gTab.symm.trans hg0)
  obtain rfl := Option.some.inj (tTab.symm.trans ht0)
  obtain ⟨xs, m1, rfl, hx1, hlen, hn, hel⟩ := DataW.trod_array Tryz.underlying148 hd0
  simp only [Prod.mk.injEq] at hx1
  have hdat := datum.symm.trans hx1.1
  simp only [DataW.agg.injEq] at hdat
  have hT : Tab W := by
    intro j hj
    have hj64 : j < 64 := hj
    have h1 := hel j hj64
    rw [cellsU8, Nat.mul_one] at h1
    have hxj : xs[j]? = some (xs[j]'(by omega)) := List.getElem?_eq_getElem _
    rw [hxj] at h1
    obtain ⟨k, e1, e2, _⟩ := DataW.trod_int Tryz.underlying5 h1
    have hk : (Lib.deBruijn64tab.map fun (n : Nat) => (DataW.lit (.int .u8 (n : Int)) : DataW Unit))[j]? = (xs.map (·.1))[j]? := by rw [hdat]
    rw [List.getElem?_map, List.getElem?_map, hxj, List.getElem?_eq_getElem hj] at hk
    simp only [Option.map_some, Option.some.injEq] at hk
    rw [e2] at hk
    simp only [DataW.lit.injEq, Lit.int.injEq, true_and] at hk
    have h2 := World.var?_cell hg0 hv0 j
    rw [h2, ← Array.getElem?_toList]
    have h3 : (cs0.toList.drop j)[0]? = some (.int .u8 k) := by
      have := congrArg (fun l => l[0]?) e1
      simpa [List.getElem?_take] using this
    rw [List.getElem?_drop, Nat.add_zero] at h3
    rw [h3, ← hk, List.getD_eq_getElem?_getD, List.getElem?_eq_getElem hj]; rfl
  exact ⟨hT, World.block_lt_of_cell? W ⟨0, 0, none⟩ (hT 0 (by decide))⟩
end Go.Proofs.YteagcndpegdojaaGreatDoor.fnMany
