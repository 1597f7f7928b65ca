/-
  spec.Count, spec.Plain.
-/
import Derived.Test.YtpnnbomjbfjgpaaGreatDoorJWh
import Derived.Deep.QuietTactic
import Derived.BigQuiet
namespace Go.Proofs
open Go.RowKit Go.Roar

set_option maxRecDepth 100000 in
set_option maxHeartbeats 1000000 in
theorem count_any (u : Value) (rs : List (Nat × Nat)) (w : World) (hu : RV w u rs) (hb : ∀ r ∈ rs, r.1 ≤ r.2 ∧ r.2 < 4294967296) (hn : rs.length ≤ 1000000) :
    Calls Tryz.prog 7 #[u] w fun e w' => e = .returned (.int .i64 (rgCard rs : Nat)) ∧ Mild w w' := by
  obtain ⟨B, d, rfl, hu⟩ := hu
  have hts : ∀ (k : Nat) (r : Nat × Nat), rs[k]? = some r → rgCard (rs.take (k + 1)) = rgCard (rs.take k) + (r.2 - r.1 + 1) := by
    intro k r hx
    obtain ⟨hk, rfl⟩ := List.getElem?_eq_some_iff.1 hx
    rw [List.take_succ_eq_append_getElem hk, rgCard_append, rgCard_cons]; rfl
  have hbd : ∀ k, k ≤ rs.length → rgCard (rs.take k) ≤ k * 4294967296 := by
    intro k
    induction k with
    | zero => intro _; simp [rgCard]
    | succ k ih =>
      intro hk
      have := ih (by omega)
      have h1 := hts k rs[k] (List.getElem?_eq_getElem (by omega))
      have h2 := hb rs[k] (List.getElem_mem _)
      omega
  have Hts := Lib.hid hts
  have Hbd := Lib.hid hbd
  have Hu := Lib.hid hu
  have Hb := Lib.hid hb
  clear hu hb hts hbd
  have hl : rs.length = rs.length := rfl
  generalize hln : rs.length = n at *
  have Hl := Lib.hid hln
  clear hln hl
  go_enter Tryz.func7, Tryz.ntmps7
  go_wp2
  go_loopw [8, 3] (fun i x wr => ∃ k : Nat, i = .int .i64 k ∧ x = .int .i64 (rgCard (rs.take k) : Nat) ∧ k ≤ n ∧ Hid (Mild w wr)) (fun i _ _ => n - (intOf i).toNat)
  case atStart => exact ⟨0, rfl, rfl, Nat.zero_le _, Lib.hid (Kept.refl _ _)⟩
  case round =>
    obtain ⟨k, rfl, rfl, hk, Hm⟩ := hrel
    by_cases hlt : k < n
    · obtain ⟨r, hx⟩ : ∃ r, rs[k]? = some r := ⟨_, List.getElem?_eq_getElem (by rw [Hl.out]; exact hlt)⟩
      obtain ⟨g, rfl, a1, a2⟩ := Hu.out k r hx
      obtain ⟨r1, r2⟩ := Hb.out r (List.mem_of_getElem? hx)
      have ca := Hm.out.cell2 id a1
      have cb := Hm.out.cell2 id a2
      have i1 : (k : Int) < (n : Int) := by omega
      have t1 := Hts.out k r hx
      have t2 := Hbd.out (k + 1) (by omega)
      have t3 := Hbd.out k hk
      generalize hT1 : rgCard (rs.take (k + 1)) = T1 at *
      generalize hT0 : rgCard (rs.take k) = T0 at *
      have HT1 := Lib.hid hT1
      clear a1 a2 hx hT1 hT0
      go_wp2
      go_roundw
      case rel => exact ⟨k + 1, by go_num, by rw [HT1.out, t1]; go_num, by omega, Lib.hid (Hm.out.alloc _)⟩
      case measure => simp only [intOf]; omega
    · obtain rfl : k = n := by omega
      go_wp2
      go_ret
      have e : rs.take k = rs := by rw [← Hl.out, List.take_length]
      rw [e]
      exact ⟨rfl, Hm.out⟩
end Go.Proofs
