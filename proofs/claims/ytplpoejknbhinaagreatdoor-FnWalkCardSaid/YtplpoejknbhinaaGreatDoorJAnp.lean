/-
  Plain laws: spec.And: the ranges that each two ranges have in common.
  Plain laws for spec.Or: ranges in memory as the source of an append.
-/
import Derived.Test.YtplpoejknbhinaaGreatDoorJQpl
import Derived.Test.YtplpoejknbhinaaGreatDoorJWh
namespace Go.Roar
def andR (x y : Nat × Nat) : Nat × Nat := (max x.1 y.1, min x.2 y.2)
def andL (a b : List (Nat × Nat)) : List (Nat × Nat) := a.flatMap fun x => b.map (andR x)
theorem inR_andL (a b : List (Nat × Nat)) (z : Nat) : inR (andL a b) z ↔ inR a z ∧ inR b z := by
  unfold inR andL
  constructor
  · rintro ⟨r, hr, h1, h2⟩
    obtain ⟨x, hx, hr⟩ := List.mem_flatMap.1 hr
    obtain ⟨y, hy, rfl⟩ := List.mem_map.1 hr
    unfold andR at h1 h2
    simp only at h1 h2
    exact ⟨⟨x, hx, by omega, by omega⟩, ⟨y, hy, by omega, by omega⟩⟩
  · rintro ⟨⟨x, hx, h1, h2⟩, ⟨y, hy, h3, h4⟩⟩
    exact ⟨andR x y, List.mem_flatMap.2 ⟨x, hx, List.mem_map.2 ⟨y, hy, rfl⟩⟩, by unfold andR; simp only; omega, by unfold andR; simp only; omega⟩
theorem andL_step {a b : List (Nat × Nat)} {k : Nat} {x : Nat × Nat} (h : a[k]? = some x) : andL (a.take (k + 1)) b = andL (a.take k) b ++ b.map (andR x) := by
  unfold andL
  rw [List.take_add_one, h, List.flatMap_append]
  simp
theorem map_step {b : List (Nat × Nat)} {j : Nat} {x y : Nat × Nat} (h : b[j]? = some y) : (b.take (j + 1)).map (andR x) = (b.take j).map (andR x) ++ [andR x y] := by
  rw [List.take_add_one, h, List.map_append]
  simp
theorem andL_length (a b : List (Nat × Nat)) : (andL a b).length = a.length * b.length := by
  unfold andL
  induction a with
  | nil => simp
  | cons x l ih => rw [List.flatMap_cons, List.length_append, ih, List.length_map, List.length_cons, Nat.add_mul]; omega
theorem andL_lt {a b : List (Nat × Nat)} {n : Nat} (ha : ∀ r ∈ a, r.1 < n ∧ r.2 < n) (hb : ∀ r ∈ b, r.1 < n ∧ r.2 < n) : ∀ r ∈ andL a b, r.1 < n ∧ r.2 < n := by
  intro r hr
  obtain ⟨x, hx, hr⟩ := List.mem_flatMap.1 hr
  obtain ⟨y, hy, rfl⟩ := List.mem_map.1 hr
  have h1 := ha x hx
  have h2 := hb y hy
  unfold andR
  simp only
  omega
end Go.Roar

namespace Go.Roar
open Go.RowKit Go.Proofs
theorem add_flat (g j : Nat) : (⟨g, 0, none⟩ : Addr).add j = ⟨g, j, none⟩ := by
  unfold Addr.add
  by_cases hj0 : j = 0
  · subst hj0; simp
  · simp [hj0]
theorem RV.news {w : World} {ad : Addr} {n c : Nat} {rs : List (Nat × Nat)} (h : RV w (.slice (some ad) n c) rs) : ∀ j u, (rcs rs)[j]? = some u → w.cell? (ad.add j) = some u := by
  obtain ⟨A, c', e, h⟩ := h
  simp only [Value.slice.injEq] at e
  obtain ⟨rfl, rfl, rfl⟩ := e
  intro j u hj
  have hjl : j < rs.length * 2 := by have := (List.getElem?_eq_some_iff.1 hj).1; rwa [rcs_length] at this
  obtain ⟨i, hi⟩ : ∃ i, j = i * 2 ∨ j = i * 2 + 1 := ⟨j / 2, by omega⟩
  have hr : rs[i]? = some (rs[i]'(by omega)) := List.getElem?_eq_getElem (by omega)
  obtain ⟨g, hg, c1, c2⟩ := h _ _ hr
  obtain ⟨e1, e2⟩ := rcs_at hr
  simp only [Option.some.injEq] at hg
  subst hg
  rcases hi with rfl | rfl
  · rw [e1] at hj
    rw [← Option.some.inj hj, ← c1, add_flat]
  · rw [e2] at hj
    rw [← Option.some.inj hj, ← c2, add_flat]
theorem RV.none_nil {w : World} {n c : Nat} {rs : List (Nat × Nat)} (h : RV w (.slice none n c) rs) : rs = [] := by
  obtain ⟨A, c', e, h⟩ := h
  simp only [Value.slice.injEq] at e
  obtain ⟨rfl, rfl, rfl⟩ := e
  cases rs with
  | nil => rfl
  | cons r l =>
    obtain ⟨g, hg, _⟩ := h 0 r rfl
    cases hg
end Go.Roar
