/-
  roaringArray's size, getKeyAtIndex, getContainerAtIndex.
-/
import Derived.Test.YtbfjpbpohkidoaaGreatDoorLow
namespace Go.Proofs
open Go.RowKit Go.Roar

theorem raSize_any (p : Nat) (G : Option Addr) (n c : Nat) (w : World) (h0 : w.cell? ⟨p, 0, none⟩ = some (.slice G n c)) :
    Calls Tryz.prog 36 #[.pointer (some ⟨p, 0, none⟩)] w fun e w' => e = .returned (.int .i64 (n : Int)) ∧ w = w' := by
  go_enter Tryz.func36, Tryz.ntmps36
  go_wp2
  go_ret
  exact ⟨rfl, rfl⟩
theorem raKey_any (p g n c i k : Nat) (w : World) (h0 : w.cell? ⟨p, 0, none⟩ = some (.slice (some ⟨g, 0, none⟩) n c)) (hi : i < n) (hk : w.cell? ⟨g, i, none⟩ = some (.int .u16 (k : Int))) :
    Calls Tryz.prog 37 #[.pointer (some ⟨p, 0, none⟩), .int .i64 (i : Int)] w fun e w' => e = .returned (.int .u16 (k : Int)) ∧ w = w' := by
  have i1 : (i : Int) < (n : Int) := by omega
  go_enter Tryz.func37, Tryz.ntmps37
  go_wp2
  go_ret
  exact ⟨rfl, rfl⟩
theorem raCont_any (p g n c i : Nat) (v : Value) (w : World) (h0 : w.cell? ⟨p, 1, none⟩ = some (.slice (some ⟨g, 0, none⟩) n c)) (hi : i < n) (hk : w.cell? ⟨g, i, none⟩ = some v) :
    Calls Tryz.prog 38 #[.pointer (some ⟨p, 0, none⟩), .int .i64 (i : Int)] w fun e w' => e = .returned v ∧ w = w' := by
  have i1 : (i : Int) < (n : Int) := by omega
  go_enter Tryz.func38, Tryz.ntmps38
  go_wp2
  go_ret
  exact ⟨rfl, rfl⟩
end Go.Proofs
