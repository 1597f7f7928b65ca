/-
  Plain laws: a set with one number more: the parts, and the numbers of spec.Or.
-/
import Derived.Test.YtgohhikcmajmoaaGreatDoorJQpl
import Derived.Test.YtgohhikcmajmoaaGreatDoorJAo
namespace Go.Roar
open Go.Proofs
/-- One number goes to the part that is there. -/
theorem one_set {ps : List (Nat × List Nat)} {i x : Nat} {l : List Nat} (h : OKP ps) (hi : ps[i]? = some (x / 65536, l)) :
    OKP (ps.set i (x / 65536, addS l (x % 65536) (x % 65536 + 1))) ∧ ∀ y, y ∈ allN (ps.set i (x / 65536, addS l (x % 65536) (x % 65536 + 1))) ↔ y ∈ allN ps ∨ y = x := by
  obtain ⟨h1, h2⟩ := part_set h hi (Nat.lt_succ_self (x % 65536)) (show x % 65536 + 1 ≤ 65536 by omega)
  refine ⟨h1, fun y => ?_⟩
  rw [h2]
  constructor
  · rintro (h | h)
    · exact .inl h
    · exact .inr (by omega)
  · rintro (h | h)
    · exact .inl h
    · exact .inr (by omega)
/-- One number makes a part of its own. -/
theorem one_ins {ps : List (Nat × List Nat)} {x : Nat} (h : OKP ps) (hx : x < 4294967296) (hno : (ps.map (·.1))[lb (ps.map (·.1)) (x / 65536)]? ≠ some (x / 65536)) :
    OKP (insAt ps (lb (ps.map (·.1)) (x / 65536)) (x / 65536, [x % 65536])) ∧ ∀ y, y ∈ allN (insAt ps (lb (ps.map (·.1)) (x / 65536)) (x / 65536, [x % 65536])) ↔ y ∈ allN ps ∨ y = x := by
  obtain ⟨h1, h2⟩ := part_ins h (show x / 65536 < 65536 by omega) hno (Nat.lt_succ_self (x % 65536)) (show x % 65536 + 1 ≤ 65536 by omega)
  rw [show List.range' (x % 65536) (x % 65536 + 1 - x % 65536) = [x % 65536] by rw [show x % 65536 + 1 - x % 65536 = 1 by omega]; rfl] at h1 h2
  refine ⟨h1, fun y => ?_⟩
  rw [h2]
  constructor
  · rintro (h | h)
    · exact .inl h
    · exact .inr (by omega)
  · rintro (h | h)
    · exact .inl h
    · exact .inr (by omega)
/-- Whether a number is in a set: by its part. -/
theorem one_in {ps : List (Nat × List Nat)} {i x : Nat} {l : List Nat} (h : OKP ps) (hi : ps[i]? = some (x / 65536, l)) : x ∈ allN ps ↔ x % 65536 ∈ l := by
  rw [allN_mem (fun p hp => (h.2 p hp).2.2.1)]
  constructor
  · rintro ⟨p, hp, hk, hm⟩
    obtain ⟨j, hj⟩ := List.getElem?_of_mem hp
    have hij : j = i := by
      obtain ⟨h1, e1⟩ := List.getElem?_eq_some_iff.1 hi
      obtain ⟨h2, e2⟩ := List.getElem?_eq_some_iff.1 hj
      rcases Nat.lt_trichotomy i j with hlt | he | hlt
      · have := List.pairwise_iff_getElem.1 h.1 i j h1 h2 hlt
        rw [e1, e2] at this
        simp at this; omega
      · exact he.symm
      · have := List.pairwise_iff_getElem.1 h.1 j i h2 h1 hlt
        rw [e1, e2] at this
        simp at this; omega
    subst hij
    rw [hi] at hj
    cases hj
    exact hm
  · exact fun hm => ⟨_, List.mem_of_getElem? hi, rfl, hm⟩
/-- The numbers of a set or one number. -/
theorem inR_plus {s : List (Nat × Nat)} (hs : ∀ r ∈ s, r.1 ≤ r.2) (x y : Nat) : inR (s ++ [(x, x)]) y ↔ y ∈ rgNums s ∨ y = x := by
  rw [inR_append, rgNums_mem hs]
  unfold inR
  constructor
  · rintro (h | ⟨r, hr, h1, h2⟩)
    · exact .inl h
    · simp at hr; subst hr
      exact .inr (by simp at h1 h2; omega)
  · rintro (h | h)
    · exact .inl h
    · exact .inr ⟨(x, x), by simp, by simp; omega, by simp; omega⟩
end Go.Roar
