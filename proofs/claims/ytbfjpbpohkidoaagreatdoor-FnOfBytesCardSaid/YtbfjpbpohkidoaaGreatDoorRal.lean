/-
  io.ReadAtLeast over a bytes.Reader.
-/
import Derived.Test.YtbfjpbpohkidoaaGreatDoorRd
import Derived.Deep.RegionHeld3
namespace Go.Proofs
open Go.RowKit Go.Roar

theorem ahead_read (a : Addr) (w : World) : (nilAhead 298 55 (.pointer (some a)) "Read").run Tryz.prog w = .ok (some false) w := by kernel_rfl
theorem method_read (a : Addr) (w : World) : (method 298 55 (.pointer (some a)) "Read").run Tryz.prog w = .ok (258, .pointer (some a)) w := by kernel_rfl

set_option maxRecDepth 100000 in
set_option maxHeartbeats 1000000 in
theorem ral_any (R D C : Nat) (bs : List Nat) (off : Nat) (G o n c : Nat) (t : TypeId) (cs : List Value) (w : World) (h : RdA w R D C bs off) (hn : 0 < n) (hle : off + n ≤ bs.length) (hb : bs.length ≤ 1000000000)
    (hG : Blk w G t cs) (hfit : o + n ≤ cs.length) (hGR : G ≠ R) (hGD : G ≠ D) (hRD : R ≠ D) (hnc : n ≤ c) :
    Calls Tryz.prog 73 #[.iface 55 (.pointer (some ⟨R, 0, none⟩)), .slice (some ⟨G, o, none⟩) n c, .int .i64 (n : Int)] w fun e w' => e = .returned (.tuple #[.int .i64 (n : Int), .nilIface]) ∧
      RdA w' R D C bs (off + n) ∧ Blk w' G t (splice cs o (u8s ((bs.drop off).take n))) ∧ Kept (fun k => k = G ∨ k = R) w w' := by
  have s1 := fun (W : World) => run_cut_from (P := Tryz.prog) W undU8s szU8 G o n c 0 .i64 (0 : Int) rfl (by omega) (by omega)
  have n1 := ahead_read ⟨R, 0, none⟩
  have n2 := method_read ⟨R, 0, none⟩
  have HR := Lib.hid h
  have HG := Lib.hid hG
  clear h hG
  go_enter Tryz.func73, Tryz.ntmps73
  go_wp2
  refine wp_loop_rounds 2 ?_
  rw [rounds_succ]
  go_wp2
  have hr' : RdA w.drew R D C bs off := HR.out.kept (S := fun _ => False) (Kept.refl _ _).drew id id
  have hg' := HG.out.drew
  go_region_held3 (fun _ => True) (trivial) (first
    | (go_at_call 258; ((with_reducible refine (brRead_any R D C bs off G o n c t cs w.drew hr' hn hle hb hg' hfit hGR hGD hRD).mono ?_); rintro ed w2 ⟨rfl, h1, h2, h3⟩)))
  all_goals
    go_wp2
    rw [rounds_succ]
    go_wp2
    go_ret2
    exact ⟨rfl, h1, h2, ((Kept.refl _ w).drew).trans h3⟩

theorem ral_zero (R : Nat) (A : Option Addr) (c : Nat) (w : World) :
    Calls Tryz.prog 73 #[.iface 55 (.pointer (some ⟨R, 0, none⟩)), .slice A 0 c, .int .i64 0] w fun e w' => e = .returned (.tuple #[.int .i64 0, .nilIface]) ∧ w = w' := by
  go_enter Tryz.func73, Tryz.ntmps73
  go_wp2
  refine wp_loop_rounds 1 ?_
  rw [rounds_succ]
  go_wp2
  go_ret2
  exact ⟨rfl, rfl⟩
end Go.Proofs
