/-
  The iterators of the containers: of 16-bit numbers, of a set of bits.
-/
import Derived.Test.YtbfjpbpohkidoaaGreatDoorNx
import Derived.Test.YtbfjpbpohkidoaaGreatDoorMk
import Derived.Deep.RegionHeld3
namespace Go.Proofs
open Go.RowKit Go.Roar

set_option maxRecDepth 100000 in
set_option maxHeartbeats 1000000 in
theorem siHas_any (I o : Nat) (G : Option Addr) (j m c : Nat) (w : World) (h0 : w.cell? ⟨I, o, none⟩ = some (.slice G m c)) (h1 : w.cell? ⟨I, o + 1, none⟩ = some (.int .i64 (j : Int))) :
    Calls Tryz.prog 246 #[.pointer (some ⟨I, o, none⟩)] w fun e w' => e = .returned (.bool (decide (j < m))) ∧ Mild w w' := by
  go_enter Tryz.func246, Tryz.ntmps246
  go_wp2
  go_quiet (fail)
  go_wp2
  go_ret
  exact ⟨rfl, (Kept.refl _ _).drewN _⟩

set_option maxRecDepth 100000 in
set_option maxHeartbeats 1000000 in
theorem siNext_any (I o g j m c x : Nat) (w : World) (h0 : w.cell? ⟨I, o, none⟩ = some (.slice (some ⟨g, 0, none⟩) m c)) (h1 : w.cell? ⟨I, o + 1, none⟩ = some (.int .i64 (j : Int)))
    (hf : w.frozen? ⟨I, o + 1, none⟩ = false) (hj : j < m) (hm : m ≤ 1000000) (hx : w.cell? ⟨g, j, none⟩ = some (.int .u16 (x : Int))) :
    Calls Tryz.prog 247 #[.pointer (some ⟨I, o, none⟩)] w fun e w' => e = .returned (.int .u16 (x : Int)) ∧ ∃ n, w' = (w.drewN n).setCell ⟨I, o + 1, none⟩ (.int .i64 ((j + 1 : Nat) : Int)) := by
  have i1 : ((j : Int) < (m : Int)) = True := by simp; omega
  go_enter Tryz.func247, Tryz.ntmps247
  go_wp2
  go_quiet (fail)
  go_wp2
  go_ret
  exact ⟨rfl, nq, rfl⟩

set_option maxRecDepth 100000 in
set_option maxHeartbeats 1000000 in
theorem biHas_any (I o : Nat) (i : Int) (w : World) (h1 : w.cell? ⟨I, o + 1, none⟩ = some (.int .i64 i)) :
    Calls Tryz.prog 254 #[.pointer (some ⟨I, o, none⟩)] w fun e w' => e = .returned (.bool (decide (0 ≤ i))) ∧ Mild w w' := by
  go_enter Tryz.func254, Tryz.ntmps254
  go_wp2
  go_ret
  exact ⟨by simp, Kept.refl _ _⟩

theorem nsb_int (p g c : Nat) (ws : List Nat) (i : Nat) (X : Int) (w : World) (hX : X = (i : Int)) (hl : ws.length = 1024) (hb : ∀ x ∈ ws, x < 18446744073709551616) (hi : i ≤ 65536) (hT : Tab w)
    (hv : w.cell? ⟨p, 1, none⟩ = some (.slice (some ⟨g, 0, none⟩) 1024 c)) (ho : Own w 1 58 (.slice (some ⟨g, 0, none⟩) 1024 c) 1024 (u64s ws)) :
    Calls Tryz.prog 39 #[.pointer (some ⟨p, 0, none⟩), .int .u64 X] w fun e w' => e = .returned (.int .i64 (nsb ws i)) ∧ w = w' := by
  subst hX; exact nsb_any p g c ws i w hl hb hi hT hv ho

set_option maxRecDepth 100000 in
set_option maxHeartbeats 1000000 in
theorem biNext_any (I o p g c i : Nat) (ws : List Nat) (w : World) (h0 : w.cell? ⟨I, o, none⟩ = some (.pointer (some ⟨p, 0, none⟩))) (h1 : w.cell? ⟨I, o + 1, none⟩ = some (.int .i64 (i : Int)))
    (hf : w.frozen? ⟨I, o + 1, none⟩ = false) (hi : i < 65536) (hl : ws.length = 1024) (hb : ∀ x ∈ ws, x < 18446744073709551616) (hT : Tab w)
    (hv : w.cell? ⟨p, 1, none⟩ = some (.slice (some ⟨g, 0, none⟩) 1024 c)) (ho : Own w 1 58 (.slice (some ⟨g, 0, none⟩) 1024 c) 1024 (u64s ws)) :
    Calls Tryz.prog 255 #[.pointer (some ⟨I, o, none⟩)] w fun e w' => e = .returned (.int .u16 (i : Int)) ∧ ∃ n, w' = (w.drewN n).setCell ⟨I, o + 1, none⟩ (.int .i64 (nsb ws (i + 1))) := by
  have H := Lib.hid (nsb_int p g c ws (i + 1) ((i : Int) + 1) w.drew (by omega) hl hb (by omega) hT hv ho)
  have u1 : IntKind.u64.wrap (i : Int) = (i : Int) := IntWalk.u64_in _ (by omega)
  have u2 : IntKind.u64.wrap ((i : Int) + 1) = (i : Int) + 1 := IntWalk.u64_in _ (by omega)
  clear hl hb hT ho
  go_enter Tryz.func255, Tryz.ntmps255
  go_wp2
  go_region_with (first
    | (go_at_call 39; ((with_reducible refine H.out.mono ?_); rintro ed w2 ⟨rfl, rfl⟩)))
  all_goals
    go_wp2
    go_ret
    refine ⟨by first | rfl | exact ret_int (by go_num), 1, rfl⟩
end Go.Proofs
