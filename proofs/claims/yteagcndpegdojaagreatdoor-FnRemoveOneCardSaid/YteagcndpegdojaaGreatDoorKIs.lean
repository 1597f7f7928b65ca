/-
  laws.is.
-/
import Derived.Test.YteagcndpegdojaaGreatDoorJWh
namespace Go.Proofs
open Go.RowKit Go.Roar

set_option maxRecDepth 100000 in
set_option maxHeartbeats 1000000 in
theorem is_any (v u : Value) (rs : List (Nat × Nat)) (w : World) (hv : SV w v rs) (hu : RV w u rs) (hb : ∀ r ∈ rs, r.1 < 4294967296 ∧ r.2 < 4294967296) (hn : rs.length ≤ 1000000) :
    Calls Tryz.prog 8 #[v, u] w fun e w' => e = .returned (.bool true) ∧ Mild w w' := by
  obtain ⟨A, c, rfl, hv⟩ := hv
  obtain ⟨B, d, rfl, hu⟩ := hu
  have Hv := Lib.hid hv
  have Hu := Lib.hid hu
  have Hb := Lib.hid hb
  clear hv hu hb
  generalize hl : rs.length = n at *
  have Hl := Lib.hid hl
  clear hl
  go_enter Tryz.func8, Tryz.ntmps8
  go_wp2
  go_loopw [14] (fun i wr => ∃ k : Nat, i = .int .i64 k ∧ k ≤ n ∧ Hid (Mild w wr)) (fun i _ => n - (intOf i).toNat)
  case atStart => exact ⟨0, rfl, Nat.zero_le _, Lib.hid (Kept.refl _ _)⟩
  case round =>
    obtain ⟨k, rfl, hk, Hm⟩ := hrel
    by_cases hlt : k < n
    · obtain ⟨r, hx⟩ : ∃ r, rs[k]? = some r := ⟨_, List.getElem?_eq_getElem (by rw [Hl.out]; exact hlt)⟩
      obtain ⟨g, rfl, a1, a2⟩ := Hv.out k r hx
      obtain ⟨g', rfl, b1, b2⟩ := Hu.out k r hx
      obtain ⟨r1, r2⟩ := Hb.out r (List.mem_of_getElem? hx)
      have ca := Hm.out.cell2 id a1
      have cb := Hm.out.cell2 id a2
      have kA : Mild wr (wr.alloc (.cells #[.int .u32 (r.1 : Int), .int .u32 (r.2 : Int)] 48)) := (Kept.refl _ _).alloc _
      have da := kA.cell2 id (Hm.out.cell2 id b1)
      have db := kA.cell2 id (Hm.out.cell2 id b2)
      have i1 : (k : Int) < (n : Int) := by omega
      have u1 : IntKind.i64.wrap (r.1 : Int) = (r.1 : Int) := IntWalk.i64_in _ (by omega)
      have u2 : IntKind.i64.wrap (r.2 : Int) = (r.2 : Int) := IntWalk.i64_in _ (by omega)
      have HkA := Lib.hid (Hm.out.trans kA)
      have nb := Blk.new wr 48 [.int .u32 (r.1 : Int), .int .u32 (r.2 : Int)]
      have n0 := nb.cell 0
      have n1 := nb.cell 1
      simp only [List.getElem?_cons_zero, List.getElem?_cons_succ] at n0 n1
      clear a1 a2 b1 b2 hx kA nb
      go_wp2
      go_quiet (fail)
      go_wp2
      go_roundw
      case rel => exact ⟨k + 1, by go_num, by omega, Lib.hid (HkA.out.drewN _)⟩
      case measure => simp only [intOf]; omega
    · obtain rfl : k = n := by omega
      go_wp2
      go_ret
      exact ⟨rfl, Hm.out⟩
end Go.Proofs
