/-
  spec.Has.
  spec.Has: the walk.
-/
import Derived.Test.YteagcndpegdojaaGreatDoorJWh
import Derived.Test.YteagcndpegdojaaGreatDoorJQpl
namespace Go.Roar
/-- Whether ranges have a number. -/
def hasR (rs : List (Nat × Nat)) (x : Nat) : Bool := rs.any fun r => decide (r.1 ≤ x) && decide (x ≤ r.2)
theorem hasR_iff (rs : List (Nat × Nat)) (x : Nat) : hasR rs x = true ↔ inR rs x := by
  unfold hasR inR
  rw [List.any_eq_true]
  constructor
  · rintro ⟨r, hr, h⟩
    simp only [Bool.and_eq_true, decide_eq_true_eq] at h
    exact ⟨r, hr, h⟩
  · rintro ⟨r, hr, h⟩
    exact ⟨r, hr, by simp only [Bool.and_eq_true, decide_eq_true_eq]; exact h⟩
theorem hasR_yes {rs : List (Nat × Nat)} {x k : Nat} {r : Nat × Nat} (hr : rs[k]? = some r) (h : r.1 ≤ x ∧ x ≤ r.2) : hasR rs x = true :=
  (hasR_iff rs x).2 ⟨r, List.mem_of_getElem? hr, h⟩
theorem hasR_no {rs : List (Nat × Nat)} {x n : Nat} (hn : rs.length = n) (h : ∀ (i : Nat) (r : Nat × Nat), i < n → rs[i]? = some r → ¬ (r.1 ≤ x ∧ x ≤ r.2)) : hasR rs x = false := by
  rw [Bool.eq_false_iff]
  intro hy
  obtain ⟨r, hr, h1⟩ := (hasR_iff rs x).1 hy
  obtain ⟨i, hi⟩ := List.getElem?_of_mem hr
  exact h i r (by rw [← hn]; exact (List.getElem?_eq_some_iff.1 hi).1) hi h1
end Go.Roar

namespace Go.Proofs
open Go.RowKit Go.Roar

set_option maxRecDepth 100000 in
set_option maxHeartbeats 1000000 in
theorem has_any (u : Value) (rs : List (Nat × Nat)) (x : Nat) (w : World) (hu : RV w u rs) (hb : ∀ r ∈ rs, r.1 < 4294967296 ∧ r.2 < 4294967296) (hn : rs.length ≤ 1000000) :
    Calls Tryz.prog 10 #[u, .int .i64 (x : Int)] w fun e w' => e = .returned (.bool (hasR rs x)) ∧ Mild w w' := by
  obtain ⟨B, d, rfl, hu⟩ := hu
  have Hu := Lib.hid hu
  have Hb := Lib.hid hb
  clear hu hb
  generalize hln : rs.length = n at *
  have Hl := Lib.hid hln
  clear hln
  have Hy := Lib.hid (fun (k : Nat) (r : Nat × Nat) (h : rs[k]? = some r) (h1 : r.1 ≤ x ∧ x ≤ r.2) => hasR_yes h h1)
  have Hno := Lib.hid (hasR_no (x := x) Hl.out)
  generalize hasR rs x = b at *
  go_enter Tryz.func10, Tryz.ntmps10
  go_wp2
  go_loopw [9] (fun i wr => ∃ k : Nat, i = .int .i64 k ∧ k ≤ n ∧ Hid (∀ (i : Nat) (r : Nat × Nat), i < k → rs[i]? = some r → ¬ (r.1 ≤ x ∧ x ≤ r.2)) ∧ Hid (Mild w wr)) (fun i _ => n - (intOf i).toNat)
  case atStart => exact ⟨0, rfl, Nat.zero_le _, Lib.hid (fun i r hi => by omega), Lib.hid (Kept.refl _ _)⟩
  case round =>
    obtain ⟨k, rfl, hk, HN, Hm⟩ := hrel
    by_cases hlt : k < n
    · obtain ⟨r, hxk⟩ : ∃ r, rs[k]? = some r := ⟨_, List.getElem?_eq_getElem (by rw [Hl.out]; exact hlt)⟩
      obtain ⟨g, rfl, a1, a2⟩ := Hu.out k r hxk
      obtain ⟨r1, r2⟩ := Hb.out r (List.mem_of_getElem? hxk)
      have ca := Hm.out.cell2 id a1
      have cb := Hm.out.cell2 id a2
      have i1 : (k : Int) < (n : Int) := by omega
      by_cases hin : r.1 ≤ x ∧ x ≤ r.2
      · have hb1 := Hy.out k r hxk hin
        have j1 : (r.1 : Int) ≤ (x : Int) := by omega
        have j2 : (x : Int) ≤ (r.2 : Int) := by omega
        clear a1 a2 hxk Hy Hno
        go_wp2
        go_ret
        exact ⟨by rw [hb1]; rfl, Hm.out.alloc _⟩
      · have HN2 := Lib.hid (show ∀ (i : Nat) (q : Nat × Nat), i < k + 1 → rs[i]? = some q → ¬ (q.1 ≤ x ∧ x ≤ q.2) from fun i q hi hq => by
          rcases Nat.eq_or_lt_of_le (Nat.le_of_lt_succ hi) with rfl | hi
          · rw [hxk] at hq; cases hq; exact hin
          · exact HN.out i q hi hq)
        clear a1 a2 hxk
        by_cases h1 : r.1 ≤ x
        · have j1 : (r.1 : Int) ≤ (x : Int) := by omega
          have j2 : ¬ (x : Int) ≤ (r.2 : Int) := by omega
          go_wp2
          go_roundw
          case rel => exact ⟨k + 1, by go_num, by omega, HN2, Lib.hid (Hm.out.alloc _)⟩
          case measure => simp only [intOf]; omega
        · have j1 : ¬ (r.1 : Int) ≤ (x : Int) := by omega
          go_wp2
          go_roundw
          case rel => exact ⟨k + 1, by go_num, by omega, HN2, Lib.hid (Hm.out.alloc _)⟩
          case measure => simp only [intOf]; omega
    · obtain rfl : k = n := by omega
      have hb0 := Hno.out HN.out
      go_wp2
      go_ret
      exact ⟨by rw [hb0]; rfl, Hm.out⟩
end Go.Proofs
