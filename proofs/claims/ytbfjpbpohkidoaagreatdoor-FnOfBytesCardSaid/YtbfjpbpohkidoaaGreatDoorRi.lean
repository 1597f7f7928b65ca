/-
  The iterator of a container of runs.
-/
import Derived.Test.YtbfjpbpohkidoaaGreatDoorNx
import Derived.Test.YtbfjpbpohkidoaaGreatDoorMk
import Derived.Deep.RegionHeld3
namespace Go.Proofs
open Go.RowKit Go.Roar

set_option maxRecDepth 100000 in
set_option maxHeartbeats 1000000 in
theorem riHas_end (I o q j : Nat) (G : Option Addr) (m c : Nat) (w : World) (h0 : w.cell? ⟨I, o, none⟩ = some (.pointer (some ⟨q, 0, none⟩))) (h1 : w.cell? ⟨I, o + 1, none⟩ = some (.int .i64 (j : Int)))
    (hq : w.cell? ⟨q, 0, none⟩ = some (.slice G m c)) (hj : m ≤ j) (hb : j ≤ 1000000) :
    Calls Tryz.prog 250 #[.pointer (some ⟨I, o, none⟩)] w fun e w' => e = .returned (.bool false) ∧ Mild w w' := by
  have w1 : IntKind.i64.wrap ((j : Int) + 1) = (j : Int) + 1 := IntWalk.i64_in _ (by omega)
  have d1 : decide ((j : Int) + 1 < (m : Int)) = false := by simp; omega
  have d2 : ((m : Int) == (j : Int) + 1) = false := by simp; omega
  go_enter Tryz.func250, Tryz.ntmps250
  go_wp2
  go_quiet (fail)
  go_wp2
  go_ret
  exact ⟨rfl, (Kept.refl _ _).drewN _⟩

set_option maxRecDepth 100000 in
set_option maxHeartbeats 1000000 in
theorem riHas_far (I o q j : Nat) (G : Option Addr) (m c : Nat) (w : World) (h0 : w.cell? ⟨I, o, none⟩ = some (.pointer (some ⟨q, 0, none⟩))) (h1 : w.cell? ⟨I, o + 1, none⟩ = some (.int .i64 (j : Int)))
    (hq : w.cell? ⟨q, 0, none⟩ = some (.slice G m c)) (hj : j + 1 < m) (hb : m ≤ 1000000) :
    Calls Tryz.prog 250 #[.pointer (some ⟨I, o, none⟩)] w fun e w' => e = .returned (.bool true) ∧ Mild w w' := by
  have w1 : IntKind.i64.wrap ((j : Int) + 1) = (j : Int) + 1 := IntWalk.i64_in _ (by omega)
  have d1 : decide ((j : Int) + 1 < (m : Int)) = true := by simp; omega
  go_enter Tryz.func250, Tryz.ntmps250
  go_wp2
  go_quiet (fail)
  go_wp2
  go_ret
  exact ⟨rfl, (Kept.refl _ _).drewN _⟩

set_option maxRecDepth 100000 in
set_option maxHeartbeats 1000000 in
theorem riHas_last (I o q g j k len : Nat) (c : Nat) (w : World) (h0 : w.cell? ⟨I, o, none⟩ = some (.pointer (some ⟨q, 0, none⟩))) (h1 : w.cell? ⟨I, o + 1, none⟩ = some (.int .i64 (j : Int)))
    (h2 : w.cell? ⟨I, o + 2, none⟩ = some (.int .u16 (k : Int)))
    (hq : w.cell? ⟨q, 0, none⟩ = some (.slice (some ⟨g, 0, none⟩) (j + 1) c)) (hb : j ≤ 1000000) (hx : w.cell? ⟨g, j * 2 + 1, none⟩ = some (.int .u16 (len : Int))) (hk : k ≤ len) :
    Calls Tryz.prog 250 #[.pointer (some ⟨I, o, none⟩)] w fun e w' => e = .returned (.bool true) ∧ Mild w w' := by
  have w1 : IntKind.i64.wrap ((j : Int) + 1) = (j : Int) + 1 := IntWalk.i64_in _ (by omega)
  have d3 : decide ((k : Int) ≤ (len : Int)) = true := by simp; omega
  have i1 : (j : Int) < (j : Int) + 1 := by omega
  go_enter Tryz.func250, Tryz.ntmps250
  go_wp2
  go_quiet (fail)
  go_wp2
  go_ret
  exact ⟨rfl, (Kept.refl _ _).drewN _⟩

set_option maxRecDepth 100000 in
set_option maxHeartbeats 1000000 in
theorem riNext_in (I o q g j k st len m c : Nat) (w : World) (h0 : w.cell? ⟨I, o, none⟩ = some (.pointer (some ⟨q, 0, none⟩))) (h1 : w.cell? ⟨I, o + 1, none⟩ = some (.int .i64 (j : Int)))
    (h2 : w.cell? ⟨I, o + 2, none⟩ = some (.int .u16 (k : Int))) (hf2 : w.frozen? ⟨I, o + 2, none⟩ = false)
    (hq : w.cell? ⟨q, 0, none⟩ = some (.slice (some ⟨g, 0, none⟩) m c)) (hj : j < m) (hs : w.cell? ⟨g, j * 2, none⟩ = some (.int .u16 (st : Int))) (hx : w.cell? ⟨g, j * 2 + 1, none⟩ = some (.int .u16 (len : Int)))
    (hk : k < len) (hl : st + len < 65536) :
    Calls Tryz.prog 251 #[.pointer (some ⟨I, o, none⟩)] w fun e w' => e = .returned (.int .u16 ((st + k : Nat) : Int)) ∧ ∃ n, w' = (w.drewN n).setCell ⟨I, o + 2, none⟩ (.int .u16 ((k + 1 : Nat) : Int)) := by
  have i1 : (j : Int) < (m : Int) := by omega
  have d3 : ((k : Int) == (len : Int)) = false := by simp; omega
  go_enter Tryz.func251, Tryz.ntmps251
  go_wp2
  go_quiet (fail)
  go_wp2
  go_quiet (fail)
  go_wp2
  go_ret
  exact ⟨ret_int (by omega), _, by first | rfl | exact congrArg _ (int_eq (by omega))⟩

set_option maxRecDepth 100000 in
set_option maxHeartbeats 1000000 in
theorem riNext_out (I o q g j st len m c : Nat) (w : World) (h0 : w.cell? ⟨I, o, none⟩ = some (.pointer (some ⟨q, 0, none⟩))) (h1 : w.cell? ⟨I, o + 1, none⟩ = some (.int .i64 (j : Int)))
    (h2 : w.cell? ⟨I, o + 2, none⟩ = some (.int .u16 (len : Int))) (hf2 : w.frozen? ⟨I, o + 2, none⟩ = false) (hf1 : w.frozen? ⟨I, o + 1, none⟩ = false)
    (hq : w.cell? ⟨q, 0, none⟩ = some (.slice (some ⟨g, 0, none⟩) m c)) (hj : j < m) (hb : m ≤ 1000000) (hs : w.cell? ⟨g, j * 2, none⟩ = some (.int .u16 (st : Int))) (hx : w.cell? ⟨g, j * 2 + 1, none⟩ = some (.int .u16 (len : Int)))
    (hl : st + len < 65536) :
    Calls Tryz.prog 251 #[.pointer (some ⟨I, o, none⟩)] w fun e w' => e = .returned (.int .u16 ((st + len : Nat) : Int)) ∧ ∃ n, w' = ((w.drewN n).setCell ⟨I, o + 2, none⟩ (.int .u16 0)).setCell ⟨I, o + 1, none⟩ (.int .i64 ((j + 1 : Nat) : Int)) := by
  have i1 : (j : Int) < (m : Int) := by omega
  go_enter Tryz.func251, Tryz.ntmps251
  go_wp2
  go_quiet (fail)
  go_wp2
  go_quiet (fail)
  go_wp2
  go_ret
  exact ⟨ret_int (by omega), _, by first | rfl | exact congrArg _ (int_eq (by omega))⟩
end Go.Proofs
