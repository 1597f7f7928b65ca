/-
  Plain laws: one number is taken out of a set's parts: from a part that stays, or with the part.
  Plain laws: an entry is taken out of a row by a copy of what lies behind it.
  A set in memory loses a container: its parts.
-/
import Derived.Test.YtjjijipfhnoomaaGreatDoorJAoR
import Derived.Test.YtjjijipfhnoomaaGreatDoorJKo
import Derived.Test.YtjjijipfhnoomaaGreatDoorKIns
namespace Go.Roar
open Go.RowKit Go.Proofs
/-- A part that other parts' keys do not have. -/
theorem part_only {ps : List (Nat × List Nat)} {i j : Nat} {p q : Nat × List Nat} (h : OKP ps) (hi : ps[i]? = some p) (hj : ps[j]? = some q) (hk : p.1 = q.1) : i = j := by
  have hs := h.keys
  have h1 : (ps.map (·.1))[i]? = some p.1 := by rw [List.getElem?_map, hi]; rfl
  have h2 : (ps.map (·.1))[j]? = some q.1 := by rw [List.getElem?_map, hj]; rfl
  rcases Nat.lt_trichotomy i j with h3 | h3 | h3
  · have := rising_lt hs _ _ _ _ h3 h1 h2; omega
  · exact h3
  · have := rising_lt hs _ _ _ _ h3 h2 h1; omega
/-- A number is taken out of the part at place i, which keeps others. -/
theorem part_cut {ps : List (Nat × List Nat)} {i k y : Nat} {l : List Nat} (h : OKP ps) (hi : ps[i]? = some (k, l)) (hy : y < 65536) (hne : wo l y ≠ []) :
    OKP (ps.set i (k, wo l y)) ∧ ∀ x, x ∈ allN (ps.set i (k, wo l y)) ↔ x ∈ allN ps ∧ x ≠ k * 65536 + y := by
  obtain ⟨hil, hie⟩ := List.getElem?_eq_some_iff.1 hi
  have hp := h.2 (k, l) (List.mem_of_getElem? hi)
  have hk : (ps.set i (k, wo l y)).map (·.1) = ps.map (·.1) := by
    rw [List.map_set]
    apply List.ext_getElem?
    intro j
    by_cases hj : j = i
    · subst hj; rw [List.getElem?_set_self (by simpa using hil), List.getElem?_map, hi]; rfl
    · rw [List.getElem?_set_ne (by omega)]
  have ok : OKP (ps.set i (k, wo l y)) := by
    refine ⟨?_, fun p hp' => ?_⟩
    · have : ((ps.set i (k, wo l y)).map (·.1)).Pairwise (· < ·) := by rw [hk]; exact h.keys
      exact List.pairwise_map.1 this
    · rcases List.mem_or_eq_of_mem_set hp' with hp' | rfl
      · exact h.2 p hp'
      · exact ⟨hp.1, wo_rising hp.2.1 y, wo_lt hp.2.2.1 y, hne⟩
  refine ⟨ok, fun x => ?_⟩
  rw [allN_mem (fun p hp => (ok.2 p hp).2.2.1), allN_mem (fun p hp => (h.2 p hp).2.2.1)]
  constructor
  · rintro ⟨p, hp', h1, h2⟩
    obtain ⟨j, hj⟩ := List.getElem?_of_mem hp'
    by_cases hji : j = i
    · subst hji
      rw [List.getElem?_set_self hil] at hj; cases hj
      obtain ⟨h3, h4⟩ := wo_mem.1 h2
      dsimp only at h1 h4
      exact ⟨⟨(k, l), List.mem_of_getElem? hi, h1, h3⟩, by omega⟩
    · rw [List.getElem?_set_ne (by omega)] at hj
      refine ⟨⟨p, List.mem_of_getElem? hj, h1, h2⟩, fun e => hji (part_only h hj hi ?_)⟩
      dsimp only
      omega
  · rintro ⟨⟨p, hp', h1, h2⟩, hne2⟩
    obtain ⟨j, hj⟩ := List.getElem?_of_mem hp'
    by_cases hji : j = i
    · subst hji
      rw [hi] at hj; cases hj
      dsimp only at h1 h2
      exact ⟨(k, wo l y), List.mem_of_getElem? (List.getElem?_set_self hil), h1, wo_mem.2 ⟨h2, by omega⟩⟩
    · exact ⟨p, List.mem_of_getElem? (i := j) (by rw [List.getElem?_set_ne (by omega)]; exact hj), h1, h2⟩
/-- The part at place i had this number alone: it goes. -/
theorem part_del {ps : List (Nat × List Nat)} {i k y : Nat} {l : List Nat} (h : OKP ps) (hi : ps[i]? = some (k, l)) (hy : y < 65536) (he : wo l y = []) :
    OKP (ps.eraseIdx i) ∧ ∀ x, x ∈ allN (ps.eraseIdx i) ↔ x ∈ allN ps ∧ x ≠ k * 65536 + y := by
  obtain ⟨hil, hie⟩ := List.getElem?_eq_some_iff.1 hi
  have hp := h.2 (k, l) (List.mem_of_getElem? hi)
  have ok : OKP (ps.eraseIdx i) := ⟨h.1.sublist (List.eraseIdx_sublist _ _), fun p hp' => h.2 p (List.mem_of_mem_eraseIdx hp')⟩
  have hmem : ∀ p, p ∈ ps.eraseIdx i ↔ ∃ j, j ≠ i ∧ ps[j]? = some p := fun p => by
    rw [List.mem_iff_getElem?]
    constructor
    · rintro ⟨j, hj⟩
      rw [List.getElem?_eraseIdx] at hj
      by_cases hji : j < i
      · rw [if_pos hji] at hj; exact ⟨j, by omega, hj⟩
      · rw [if_neg hji] at hj; exact ⟨j + 1, by omega, hj⟩
    · rintro ⟨j, hji, hj⟩
      rcases Nat.lt_or_ge j i with h3 | h3
      · exact ⟨j, by rw [List.getElem?_eraseIdx, if_pos h3]; exact hj⟩
      · exact ⟨j - 1, by rw [List.getElem?_eraseIdx, if_neg (by omega), show j - 1 + 1 = j by omega]; exact hj⟩
  refine ⟨ok, fun x => ?_⟩
  rw [allN_mem (fun p hp => (ok.2 p hp).2.2.1), allN_mem (fun p hp => (h.2 p hp).2.2.1)]
  constructor
  · rintro ⟨p, hp', h1, h2⟩
    obtain ⟨j, hji, hj⟩ := (hmem p).1 hp'
    refine ⟨⟨p, List.mem_of_getElem? hj, h1, h2⟩, fun e => hji (part_only h hj hi ?_)⟩
    dsimp only
    omega
  · rintro ⟨⟨p, hp', h1, h2⟩, hne2⟩
    obtain ⟨j, hj⟩ := List.getElem?_of_mem hp'
    refine ⟨p, (hmem p).2 ⟨j, fun hji => ?_, hj⟩, h1, h2⟩
    subst hji
    rw [hi] at hj; cases hj
    dsimp only at h1 h2
    have h3 : x % 65536 ∈ wo l y := wo_mem.2 ⟨h2, by omega⟩
    rw [he] at h3
    cases h3
end Go.Roar

namespace Go.Roar
open Go.RowKit Go.Proofs
theorem splice_out {α : Type} (l : List α) (i : Nat) (h : i < l.length) : (splice l i (l.drop (i + 1))).take (l.length - 1) = l.eraseIdx i := by
  have e : l.eraseIdx i = l.take i ++ l.drop (i + 1) := List.eraseIdx_eq_take_drop_succ l i
  rw [e]
  unfold splice
  have h1 : (l.take i ++ l.drop (i + 1)).length = l.length - 1 := by rw [List.length_append, List.length_take, List.length_drop]; omega
  rw [← List.append_assoc] <;> first
    | exact List.take_append_of_le_length (Nat.le_of_eq h1.symm) |>.trans (List.take_of_length_le (Nat.le_of_eq h1))
    | skip
theorem psOf_del (q : List Kon) (i : Nat) : psOf (q.eraseIdx i) = (psOf q).eraseIdx i := by
  unfold psOf
  rw [List.eraseIdx_eq_take_drop_succ, List.eraseIdx_eq_take_drop_succ, List.map_append, List.map_take, List.map_drop]
theorem keys_del (q : List Kon) (i : Nat) : (q.eraseIdx i).map (·.key) = (q.map (·.key)).eraseIdx i := by
  rw [List.eraseIdx_eq_take_drop_succ, List.eraseIdx_eq_take_drop_succ, List.map_append, List.map_take, List.map_drop]
theorem vals_del (q : List Kon) (i : Nat) : (q.eraseIdx i).map (·.v) = (q.map (·.v)).eraseIdx i := by
  rw [List.eraseIdx_eq_take_drop_succ, List.eraseIdx_eq_take_drop_succ, List.map_append, List.map_take, List.map_drop]
theorem KAs_del (q : List Kon) (i : Nat) : KAs (q.eraseIdx i) = KAs (q.take i) ++ KAs (q.drop (i + 1)) := by
  rw [List.eraseIdx_eq_take_drop_succ, KAs_append]
/-- Behind the set with one number less: the keys rise on. -/
theorem del_facts {q : List Kon} {i y : Nat} {x : Kon} (ok : OKP (psOf q)) (hx : q[i]? = some x) (hy : y < 65536) (he : wo x.l y = []) : OKP (psOf (q.eraseIdx i)) ∧ ∀ z, z ∈ allN (psOf (q.eraseIdx i)) ↔ z ∈ allN (psOf q) ∧ z ≠ x.key * 65536 + y := by
  rw [psOf_del]
  exact part_del ok (psOf_at hx) hy he
theorem cut_facts {q : List Kon} {i y : Nat} {x z : Kon} (ok : OKP (psOf q)) (hx : q[i]? = some x) (hy : y < 65536) (hne : wo x.l y ≠ []) (hk : z.key = x.key) (hl : z.l = wo x.l y) : OKP (psOf (q.set i z)) ∧ ∀ u, u ∈ allN (psOf (q.set i z)) ↔ u ∈ allN (psOf q) ∧ u ≠ x.key * 65536 + y := by
  rw [psOf_set, hk, hl]
  exact part_cut ok (psOf_at hx) hy hne
end Go.Roar

namespace Go.Roar
open Go.RowKit Go.Proofs
theorem bmp_del {w0 w1 w2 : World} {F : List Nat} {p : Nat} {t : TypeId} {vk vc vw vk' vc' vw' v1 : Value} {q : List Kon} {i : Nat} {L : List HA}
    (h : SS w0 F w1 (L ++ (RAL p t vk vc vw (q.map (·.key)) ((q.map (·.v)).set i v1) ++ (KAs (q.take i) ++ KAs (q.drop (i + 1))))))
    (h2 : SS w1 (foot (RAL p t vk vc vw (q.map (·.key)) ((q.map (·.v)).set i v1))) w2 (RAL p t vk' vc' vw' ((q.map (·.key)).eraseIdx i) ((q.map (·.v)).eraseIdx i))) :
    SS w0 F w2 (BMP p t vk' vc' vw' (q.eraseIdx i)) := by
  have h3 := h.right.frame h2
  unfold BMP
  rw [KAs_del, keys_del, vals_del]
  exact h3
/-- Values in a row, one of them another: taken out it is the same. -/
theorem set_erase {α : Type} (l : List α) (i : Nat) (v : α) : (l.set i v).eraseIdx i = l.eraseIdx i := by
  rw [List.eraseIdx_eq_take_drop_succ, List.eraseIdx_eq_take_drop_succ, List.take_set_of_le (Nat.le_refl _), List.drop_set_of_lt (Nat.lt_succ_self _)]
end Go.Roar
