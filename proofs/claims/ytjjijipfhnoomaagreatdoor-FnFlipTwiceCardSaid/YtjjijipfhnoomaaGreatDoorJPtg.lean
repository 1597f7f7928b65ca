/-
  Plain laws: a part of a set takes another list, goes, or comes; a list without a range (cutS), a list turned round in a range (xorS).
  Plain laws: numbers turned round in a range: how many runs there are behind it; parts turned round one behind the other.
-/
import Derived.Test.YtjjijipfhnoomaaGreatDoorJAoR
import Derived.Test.YtjjijipfhnoomaaGreatDoorJKo
import Derived.Test.YtjjijipfhnoomaaGreatDoorJRmq
namespace Go.Roar
open Go.RowKit Go.Proofs
/-- A list without the numbers from s on below e. -/
def cutS (l : List Nat) (s e : Nat) : List Nat := l.filter fun y => decide (y < s ∨ e ≤ y)
theorem cutS_mem {l : List Nat} {s e y : Nat} : y ∈ cutS l s e ↔ y ∈ l ∧ ¬ (s ≤ y ∧ y < e) := by
  unfold cutS
  rw [List.mem_filter, decide_eq_true_eq]
  exact and_congr Iff.rfl (by omega)
theorem cutS_rising {l : List Nat} (h : Rising l) (s e : Nat) : Rising (cutS l s e) := h.filter _
theorem cutS_lt {l : List Nat} {n : Nat} (h : ∀ y ∈ l, y < n) (s e : Nat) : ∀ y ∈ cutS l s e, y < n := fun y hy => h y (cutS_mem.1 hy).1
theorem cutS_length (l : List Nat) (s e : Nat) : (cutS l s e).length ≤ l.length := List.length_filter_le _ _
theorem cutS_lb {l : List Nat} {s e : Nat} (hs : Rising l) (hse : s ≤ e) : cutS l s e = l.take (lb l s) ++ l.drop (lb l e) := by
  have hle : lb l s ≤ lb l e := by
    rcases Nat.lt_or_ge (lb l e) (lb l s) with h | h
    · have hl := lb_le l s
      obtain ⟨y, hy⟩ : ∃ y, l[lb l e]? = some y := ⟨_, List.getElem?_eq_getElem (by omega)⟩
      have h1 := lb_below hs s _ _ h hy
      have h2 := lb_above hs e _ _ (Nat.le_refl _) hy
      omega
    · exact h
  refine sorted_ext (cutS_rising hs s e) ?_ (fun y => ?_)
  · refine List.pairwise_append.2 ⟨hs.sublist (List.take_sublist _ _), hs.sublist (List.drop_sublist _ _), fun x hx y hy => ?_⟩
    obtain ⟨j, hj⟩ := List.getElem?_of_mem hx
    obtain ⟨k, hk⟩ := List.getElem?_of_mem hy
    have hjl : j < lb l s := by have := (List.getElem?_eq_some_iff.1 hj).1; simp at this; omega
    rw [List.getElem?_take_of_lt hjl] at hj
    rw [List.getElem?_drop] at hk
    have h1 := lb_below hs s _ _ hjl hj
    have h2 := lb_above hs e _ _ (by omega) hk
    omega
  · rw [cutS_mem, List.mem_append]
    constructor
    · rintro ⟨h, hn⟩
      obtain ⟨j, hj⟩ := List.getElem?_of_mem h
      rcases Nat.lt_or_ge y s with h1 | h1
      · refine .inl (List.mem_of_getElem? (i := j) ?_)
        rcases Nat.lt_or_ge j (lb l s) with h2 | h2
        · rw [List.getElem?_take_of_lt h2]; exact hj
        · have := lb_above hs s _ _ h2 hj; omega
      · refine .inr (List.mem_of_getElem? (i := j - lb l e) ?_)
        rcases Nat.lt_or_ge j (lb l e) with h2 | h2
        · have := lb_below hs e _ _ h2 hj; omega
        · rw [List.getElem?_drop, show lb l e + (j - lb l e) = j by omega]; exact hj
    · rintro (h | h)
      · refine ⟨List.mem_of_mem_take h, ?_⟩
        obtain ⟨j, hj⟩ := List.getElem?_of_mem h
        have hjl : j < lb l s := by have := (List.getElem?_eq_some_iff.1 hj).1; simp at this; omega
        rw [List.getElem?_take_of_lt hjl] at hj
        have := lb_below hs s _ _ hjl hj
        omega
      · refine ⟨List.mem_of_mem_drop h, ?_⟩
        obtain ⟨k, hk⟩ := List.getElem?_of_mem h
        rw [List.getElem?_drop] at hk
        have := lb_above hs e _ _ (by omega) hk
        omega
/-- A list in which the numbers from s on below e are turned round. -/
def xorS (l : List Nat) (s e : Nat) : List Nat := l.filter (fun y => decide (y < s)) ++ ((List.range' s (e - s)).filter (fun y => decide (y ∉ l)) ++ l.filter (fun y => decide (e ≤ y)))
theorem xorS_mem {l : List Nat} {s e y : Nat} (hse : s ≤ e) : y ∈ xorS l s e ↔ (y ∈ l ∧ ¬ (s ≤ y ∧ y < e)) ∨ (y ∉ l ∧ s ≤ y ∧ y < e) := by
  unfold xorS
  simp only [List.mem_append, List.mem_filter, List.mem_range'_1, decide_eq_true_eq]
  by_cases h : y ∈ l
  · simp only [h, true_and, not_true_eq_false, and_false, false_or, false_and, or_false]; omega
  · simp only [h, false_and, not_false_eq_true, and_true, false_or, true_and, or_false]; omega
theorem xorS_rising {l : List Nat} (h : Rising l) {s e : Nat} (hse : s ≤ e) : Rising (xorS l s e) := by
  unfold xorS
  refine List.pairwise_append.2 ⟨h.filter _, List.pairwise_append.2 ⟨(List.pairwise_lt_range').filter _, h.filter _, fun x hx y hy => ?_⟩, fun x hx y hy => ?_⟩
  · simp only [List.mem_filter, List.mem_range'_1, decide_eq_true_eq] at hx hy
    omega
  · simp only [List.mem_append, List.mem_filter, List.mem_range'_1, decide_eq_true_eq] at hx hy
    rcases hy with hy | hy <;> omega
theorem xorS_lt {l : List Nat} {n s e : Nat} (h : ∀ y ∈ l, y < n) (hse : s ≤ e) (he : e ≤ n) : ∀ y ∈ xorS l s e, y < n := fun y hy => by
  rcases (xorS_mem hse).1 hy with ⟨h1, _⟩ | ⟨_, h1, h2⟩
  · exact h y h1
  · omega
theorem xorS_nil (s e : Nat) : xorS [] s e = List.range' s (e - s) := by
  unfold xorS
  simp
/-- The part at place i takes another list. -/
theorem part_to {ps : List (Nat × List Nat)} {i k : Nat} {l l' : List Nat} (h : OKP ps) (hi : ps[i]? = some (k, l)) (hs : Rising l') (hb : ∀ x ∈ l', x < 65536) (hne : l' ≠ []) :
    OKP (ps.set i (k, l')) ∧ ∀ x, x ∈ allN (ps.set i (k, l')) ↔ (x ∈ allN ps ∧ x / 65536 ≠ k) ∨ (x / 65536 = k ∧ x % 65536 ∈ l') := by
  obtain ⟨hil, hie⟩ := List.getElem?_eq_some_iff.1 hi
  have hp := h.2 (k, l) (List.mem_of_getElem? hi)
  have hk : (ps.set i (k, l')).map (·.1) = ps.map (·.1) := by
    rw [List.map_set]
    apply List.ext_getElem?
    intro j
    by_cases hj : j = i
    · subst hj; rw [List.getElem?_set_self (by simpa using hil), List.getElem?_map, hi]; rfl
    · rw [List.getElem?_set_ne (by omega)]
  have ok : OKP (ps.set i (k, l')) := by
    refine ⟨?_, fun p hp' => ?_⟩
    · have : ((ps.set i (k, l')).map (·.1)).Pairwise (· < ·) := by rw [hk]; exact h.keys
      exact List.pairwise_map.1 this
    · rcases List.mem_or_eq_of_mem_set hp' with hp' | rfl
      · exact h.2 p hp'
      · exact ⟨hp.1, hs, hb, hne⟩
  refine ⟨ok, fun x => ?_⟩
  rw [allN_mem (fun p hp => (ok.2 p hp).2.2.1), allN_mem (fun p hp => (h.2 p hp).2.2.1)]
  constructor
  · rintro ⟨p, hp', h1, h2⟩
    obtain ⟨j, hj⟩ := List.getElem?_of_mem hp'
    by_cases hji : j = i
    · subst hji
      rw [List.getElem?_set_self hil] at hj; cases hj
      exact .inr ⟨h1, h2⟩
    · rw [List.getElem?_set_ne (by omega)] at hj
      exact .inl ⟨⟨p, List.mem_of_getElem? hj, h1, h2⟩, fun e => hji (part_one h hj hi (h1.symm.trans e))⟩
  · rintro (⟨⟨p, hp', h1, h2⟩, hne2⟩ | ⟨h1, h2⟩)
    · obtain ⟨j, hj⟩ := List.getElem?_of_mem hp'
      have hji : j ≠ i := fun e => by subst e; rw [hi] at hj; cases hj; exact hne2 h1
      exact ⟨p, List.mem_of_getElem? (i := j) (by rw [List.getElem?_set_ne (by omega)]; exact hj), h1, h2⟩
    · exact ⟨(k, l'), List.mem_of_getElem? (List.getElem?_set_self hil), h1, h2⟩
where
  part_one {ps : List (Nat × List Nat)} {i j : Nat} {p q : Nat × List Nat} (h : OKP ps) (hi : ps[i]? = some p) (hj : ps[j]? = some q) (hk : p.1 = q.1) : i = j := by
    have hs := h.keys
    have h1 : (ps.map (·.1))[i]? = some p.1 := by rw [List.getElem?_map, hi]; rfl
    have h2 : (ps.map (·.1))[j]? = some q.1 := by rw [List.getElem?_map, hj]; rfl
    rcases Nat.lt_trichotomy i j with h3 | h3 | h3
    · have := rising_lt hs _ _ _ _ h3 h1 h2; omega
    · exact h3
    · have := rising_lt hs _ _ _ _ h3 h2 h1; omega
/-- The part at place i goes. -/
theorem part_gone {ps : List (Nat × List Nat)} {i k : Nat} {l : List Nat} (h : OKP ps) (hi : ps[i]? = some (k, l)) :
    OKP (ps.eraseIdx i) ∧ ∀ x, x ∈ allN (ps.eraseIdx i) ↔ x ∈ allN ps ∧ x / 65536 ≠ k := by
  have ok : OKP (ps.eraseIdx i) := ⟨h.1.sublist (List.eraseIdx_sublist _ _), fun p hp' => h.2 p (List.mem_of_mem_eraseIdx hp')⟩
  have hmem : ∀ p, p ∈ ps.eraseIdx i ↔ ∃ j, j ≠ i ∧ ps[j]? = some p := fun p => by
    rw [List.mem_iff_getElem?]
    constructor
    · rintro ⟨j, hj⟩
      rw [List.getElem?_eraseIdx] at hj
      by_cases hji : j < i
      · rw [if_pos hji] at hj; exact ⟨j, by omega, hj⟩
      · rw [if_neg hji] at hj; exact ⟨j + 1, by omega, hj⟩
    · rintro ⟨j, hji, hj⟩
      rcases Nat.lt_or_ge j i with h3 | h3
      · exact ⟨j, by rw [List.getElem?_eraseIdx, if_pos h3]; exact hj⟩
      · exact ⟨j - 1, by rw [List.getElem?_eraseIdx, if_neg (by omega), show j - 1 + 1 = j by omega]; exact hj⟩
  refine ⟨ok, fun x => ?_⟩
  rw [allN_mem (fun p hp => (ok.2 p hp).2.2.1), allN_mem (fun p hp => (h.2 p hp).2.2.1)]
  constructor
  · rintro ⟨p, hp', h1, h2⟩
    obtain ⟨j, hji, hj⟩ := (hmem p).1 hp'
    exact ⟨⟨p, List.mem_of_getElem? hj, h1, h2⟩, fun e => hji (part_to.part_one h hj hi (h1.symm.trans e))⟩
  · rintro ⟨⟨p, hp', h1, h2⟩, hne2⟩
    obtain ⟨j, hj⟩ := List.getElem?_of_mem hp'
    exact ⟨p, (hmem p).2 ⟨j, fun e => by subst e; rw [hi] at hj; cases hj; exact hne2 h1, hj⟩, h1, h2⟩
/-- A part comes at its place. -/
theorem part_new {ps : List (Nat × List Nat)} {k : Nat} {l' : List Nat} (h : OKP ps) (hk : k < 65536) (hno : (ps.map (·.1))[lb (ps.map (·.1)) k]? ≠ some k) (hs : Rising l') (hb : ∀ x ∈ l', x < 65536) (hne : l' ≠ []) :
    OKP (insAt ps (lb (ps.map (·.1)) k) (k, l')) ∧ (∀ x, x ∈ allN (insAt ps (lb (ps.map (·.1)) k) (k, l')) ↔ x ∈ allN ps ∨ (x / 65536 = k ∧ x % 65536 ∈ l')) ∧ ∀ x, x ∈ allN ps → x / 65536 ≠ k := by
  have hi := lb_le (ps.map (·.1)) k
  have hlo := lb_below h.keys k
  have hhi := lb_above h.keys k
  have hnok : ∀ p ∈ ps, p.1 ≠ k := fun p hp e => by
    apply hno
    have : k ∈ ps.map (·.1) := List.mem_map.2 ⟨p, hp, e⟩
    exact (mem_lb h.keys).1 this
  generalize lb (ps.map (·.1)) k = i at *
  rw [List.length_map] at hi
  have hm : ∀ p, p ∈ insAt ps i (k, l') ↔ p ∈ ps ∨ p = (k, l') := fun p => by
    unfold insAt
    rw [List.mem_append, List.mem_cons]
    constructor
    · rintro (h | rfl | h)
      · exact .inl (List.mem_of_mem_take h)
      · exact .inr rfl
      · exact .inl (List.mem_of_mem_drop h)
    · rintro (h | rfl)
      · rw [← List.take_append_drop i ps] at h
        rcases List.mem_append.1 h with h | h
        · exact .inl h
        · exact .inr (.inr h)
      · exact .inr (.inl rfl)
  have hb' : ∀ p ∈ ps.take i, p.1 < k := fun p hp => by
    obtain ⟨j, hj⟩ := List.getElem?_of_mem hp
    have hji : j < i := by have := (List.getElem?_eq_some_iff.1 hj).1; simp at this; omega
    rw [List.getElem?_take_of_lt hji] at hj
    exact hlo j p.1 hji (by rw [List.getElem?_map, hj]; rfl)
  have ha : ∀ p ∈ ps.drop i, k < p.1 := fun p hp => by
    obtain ⟨j, hj⟩ := List.getElem?_of_mem hp
    rw [List.getElem?_drop] at hj
    have h1 := hhi (i + j) p.1 (by omega) (by rw [List.getElem?_map, hj]; rfl)
    have h2 := hnok p (List.mem_of_getElem? hj)
    omega
  have ok : OKP (insAt ps i (k, l')) := by
    refine ⟨?_, fun p hp => ?_⟩
    · unfold insAt
      refine List.pairwise_append.2 ⟨h.1.sublist (List.take_sublist _ _), List.pairwise_cons.2 ⟨fun q hq => ha q hq, h.1.sublist (List.drop_sublist _ _)⟩, fun x hx y hy => ?_⟩
      rcases List.mem_cons.1 hy with rfl | hy
      · exact hb' x hx
      · exact Nat.lt_trans (hb' x hx) (ha y hy)
    · rcases (hm p).1 hp with hp | rfl
      · exact h.2 p hp
      · exact ⟨hk, hs, hb, hne⟩
  refine ⟨ok, fun x => ?_, fun x hx e => ?_⟩
  · rw [allN_mem (fun p hp => (ok.2 p hp).2.2.1), allN_mem (fun p hp => (h.2 p hp).2.2.1)]
    constructor
    · rintro ⟨p, hp, h1, h2⟩
      rcases (hm p).1 hp with hp | rfl
      · exact .inl ⟨p, hp, h1, h2⟩
      · exact .inr ⟨h1, h2⟩
    · rintro (⟨p, hp, h1, h2⟩ | ⟨h1, h2⟩)
      · exact ⟨p, (hm p).2 (.inl hp), h1, h2⟩
      · exact ⟨(k, l'), (hm _).2 (.inr rfl), h1, h2⟩
  · rw [allN_mem (fun p hp => (h.2 p hp).2.2.1)] at hx
    obtain ⟨p, hp, h1, _⟩ := hx
    exact hnok p hp (h1.symm.trans e)
end Go.Roar

namespace Go.Roar
open Go.RowKit Go.Proofs
/-- How many places below n are the last ones of a run. -/
def endF (f : Nat → Bool) (n : Nat) : Nat := ((List.range n).filter (fun y => f y && !f (y + 1))).length
theorem endF_succ (f : Nat → Bool) (n : Nat) : endF f (n + 1) = endF f n + (if (f n && !f (n + 1)) = true then 1 else 0) := by
  unfold endF
  rw [List.range_succ, List.filter_append, List.length_append]
  cases h : (f n && !f (n + 1)) <;> simp [h]
theorem endF_xor {f g : Nat → Bool} {s e : Nat} (hse : s ≤ e) (ho : ∀ y, ¬ (s ≤ y ∧ y < e) → g y = f y) (hi : ∀ y, s ≤ y → y < e → g y = !f y) (n : Nat) :
    (n < s → endF g n = endF f n) ∧ (s ≤ n → n < e → endF g n ≤ endF f n + (if f n = true then 1 else 0)) ∧ (e ≤ n → endF g n ≤ endF f n + 1) := by
  induction n with
  | zero => refine ⟨fun _ => rfl, fun _ _ => by simp [endF], fun _ => by simp [endF]⟩
  | succ n ih =>
    obtain ⟨i1, i2, i3⟩ := ih
    rw [endF_succ, endF_succ]
    refine ⟨fun h => ?_, fun h1 h2 => ?_, fun h => ?_⟩
    · rw [i1 (by omega), ho n (by omega), ho (n + 1) (by omega)]
    · rw [hi (n + 1) h1 h2]
      rcases Nat.lt_or_ge n s with h3 | h3
      · rw [i1 h3, ho n (by omega)]
        cases f n <;> cases f (n + 1) <;> simp
      · have := i2 h3 (by omega)
        rw [hi n h3 (by omega)]
        cases h4 : f n <;> cases h5 : f (n + 1) <;> simp [h4] at this ⊢ <;> omega
    · rw [ho (n + 1) (by omega)]
      rcases Nat.lt_or_ge n e with h3 | h3
      · rcases Nat.lt_or_ge n s with h6 | h6
        · rw [i1 h6, ho n (by omega)]; omega
        · have := i2 h6 h3
          rw [hi n h6 h3]
          cases h4 : f n <;> cases h5 : f (n + 1) <;> simp [h4] at this ⊢ <;> omega
      · have := i3 h3
        rw [ho n (by omega)]; omega
theorem ends_endF {l : List Nat} (hs : Rising l) {n : Nat} (hb : ∀ x ∈ l, x < n) : (ends l).length = endF (fun y => decide (y ∈ l)) n := by
  unfold endF ends
  congr 1
  refine sorted_ext (hs.filter _) ((List.pairwise_lt_range (n := n)).filter _) (fun x => ?_)
  simp only [List.mem_filter, List.mem_range, Bool.and_eq_true, decide_eq_true_eq, Bool.not_eq_true', decide_eq_false_iff_not]
  exact ⟨fun h => ⟨hb x h.1, h.1, h.2⟩, fun h => ⟨h.2.1, h.2.2⟩⟩
/-- Numbers turned round in a range have one run more at most. -/
theorem runs_flip {l l' : List Nat} {n s e : Nat} (hs : Rising l) (hs' : Rising l') (hb : ∀ x ∈ l, x < n) (hb' : ∀ x ∈ l', x < n) (hse : s ≤ e) (he : e ≤ n)
    (h : ∀ y, y ∈ l' ↔ (y ∈ l ∧ ¬ (s ≤ y ∧ y < e)) ∨ (y ∉ l ∧ s ≤ y ∧ y < e)) : (runsOf l').length ≤ (runsOf l).length + 1 := by
  rw [runs_len hs hb, runs_len hs' hb', ends_endF hs hb, ends_endF hs' hb']
  refine (endF_xor hse (fun y hy => ?_) (fun y h1 h2 => ?_) n).2.2 he
  · rw [decide_eq_decide, h y]
    exact ⟨fun g => g.elim (fun g => g.1) (fun g => absurd g.2 hy), fun g => .inl ⟨g, hy⟩⟩
  · rw [← decide_not, decide_eq_decide, h y]
    exact ⟨fun g => g.elim (fun g => absurd ⟨h1, h2⟩ g.2) (fun g => g.1), fun g => .inr ⟨g, h1, h2⟩⟩
theorem runs_xorS {l : List Nat} {s e : Nat} (hs : Rising l) (hb : ∀ x ∈ l, x < 65536) (hse : s ≤ e) (he : e ≤ 65536) : (runsOf (xorS l s e)).length ≤ (runsOf l).length + 1 :=
  runs_flip hs (xorS_rising hs hse) hb (xorS_lt hb hse he) hse he (fun _ => xorS_mem hse)
theorem few_xor {ps : List (Nat × List Nat)} {i k s e m : Nat} {l : List Nat} (h : OKP ps) (hf : FewAt ps m k) (hi : ps[i]? = some (k, l)) (hse : s ≤ e) (he : e ≤ 65536) : FewAt (ps.set i (k, xorS l s e)) m (k + 1) := by
  intro p hp
  rcases List.mem_or_eq_of_mem_set hp with hp | rfl
  · have := hf p hp
    by_cases h1 : p.1 < k
    · rw [if_pos h1] at this; rw [if_pos (by omega)]; exact this
    · rw [if_neg h1] at this; omega
  · have h1 := h.2 (k, l) (List.mem_of_getElem? hi)
    have h2 := hf (k, l) (List.mem_of_getElem? hi)
    have := runs_xorS h1.2.1 h1.2.2.1 hse he
    dsimp only at *
    rw [if_neg (by omega)] at h2
    rw [if_pos (by omega)]
    omega
theorem few_more {ps ps' : List (Nat × List Nat)} {m k : Nat} (hf : FewAt ps m k) (h : ∀ p ∈ ps', p ∈ ps) : FewAt ps' m (k + 1) := by
  intro p hp
  have := hf p (h p hp)
  by_cases h1 : p.1 < k
  · rw [if_pos h1] at this; rw [if_pos (by omega)]; exact this
  · rw [if_neg h1] at this; omega
/-- The part of a number. -/
theorem key_in {ps : List (Nat × List Nat)} {i k x : Nat} {l : List Nat} (h : OKP ps) (hi : ps[i]? = some (k, l)) (hk : x / 65536 = k) : x ∈ allN ps ↔ x % 65536 ∈ l := by
  subst hk
  rw [allN_mem (fun p hp => (h.2 p hp).2.2.1)]
  constructor
  · rintro ⟨p, hp, hk, hm⟩
    obtain ⟨j, hj⟩ := List.getElem?_of_mem hp
    have e := part_to.part_one h hj hi hk.symm
    subst e
    rw [hi] at hj; cases hj
    exact hm
  · exact fun hm => ⟨_, List.mem_of_getElem? hi, rfl, hm⟩
theorem key_out {ps : List (Nat × List Nat)} {k x : Nat} (h : OKP ps) (hno : (ps.map (·.1))[lb (ps.map (·.1)) k]? ≠ some k) (hk : x / 65536 = k) : x ∉ allN ps := by
  rw [allN_mem (fun p hp => (h.2 p hp).2.2.1)]
  rintro ⟨p, hp, hk2, hm⟩
  exact hno ((mem_lb h.keys).1 (by rw [← hk, hk2]; exact List.mem_map.2 ⟨p, hp, rfl⟩))
/-- What is turned round up to the key h. -/
def FT (S E h x : Nat) : Prop := S ≤ x ∧ x < E ∧ x / 65536 < h
theorem FT_at {S E h x : Nat} (hSE : S < E) (h1 : S / 65536 ≤ h) (h2 : h ≤ (E - 1) / 65536) (hx : x / 65536 = h) : ¬ FT S E h x ∧ (FT S E (h + 1) x ↔ csOf S h ≤ x % 65536 ∧ x % 65536 < clOf E h + 1) := by
  obtain ⟨_, c2, c3⟩ := cs_cl hSE h1 h2
  have := c3 x
  unfold FT
  refine ⟨by omega, ?_⟩
  rw [← this]
  constructor
  · rintro (g | g)
    · omega
    · constructor
      · have : csOf S h < 65536 := by unfold csOf; split <;> omega
        omega
      · omega
  · intro g
    exact .inr ⟨by omega, by omega⟩
theorem FT_off {S E h x : Nat} (hx : x / 65536 ≠ h) : FT S E (h + 1) x ↔ FT S E h x := by unfold FT; exact ⟨fun g => ⟨g.1, g.2.1, by omega⟩, fun g => ⟨g.1, g.2.1, by omega⟩⟩
/-- Numbers turned round up to the key h. -/
def FX (N : List Nat) (S E h x : Nat) : Prop := (x ∈ N ∧ ¬ FT S E h x) ∨ (x ∉ N ∧ FT S E h x)
theorem FX_step {N : List Nat} {S E h : Nat} {A A' : List Nat} {l' : Nat → Prop} (hSE : S < E) (h1 : S / 65536 ≤ h) (h2 : h ≤ (E - 1) / 65536) (hA : ∀ x, x ∈ A ↔ FX N S E h x)
    (hA' : ∀ x, x ∈ A' ↔ (x ∈ A ∧ x / 65536 ≠ h) ∨ (x / 65536 = h ∧ l' (x % 65536)))
    (hl : ∀ x, x / 65536 = h → (l' (x % 65536) ↔ (x ∈ A ∧ ¬ (csOf S h ≤ x % 65536 ∧ x % 65536 < clOf E h + 1)) ∨ (x ∉ A ∧ csOf S h ≤ x % 65536 ∧ x % 65536 < clOf E h + 1))) (x : Nat) : x ∈ A' ↔ FX N S E (h + 1) x := by
  rw [hA']
  by_cases hx : x / 65536 = h
  · obtain ⟨t1, t2⟩ := FT_at hSE h1 h2 hx
    have hn : x ∈ A ↔ x ∈ N := by rw [hA]; unfold FX; exact ⟨fun g => g.elim (·.1) (fun g => absurd g.2 t1), fun g => .inl ⟨g, t1⟩⟩
    unfold FX
    rw [t2, hl x hx, hn]
    constructor
    · rintro (g | g)
      · exact absurd hx g.2
      · exact g.2
    · exact fun g => .inr ⟨hx, g⟩
  · unfold FX
    rw [FT_off hx]
    have := hA x
    unfold FX at this
    rw [← this]
    constructor
    · rintro (g | g)
      · exact g.1
      · exact absurd g.1 hx
    · exact fun g => .inl ⟨g, hx⟩
/-- Where Flip stands ahead of the containers from key h on. -/
structure FL (w0 : World) (F : List Nat) (p : Nat) (t : TypeId) (m : Nat) (N : List Nat) (S E : Nat) (wr : World) (h : Nat) (vk vc vw : Value) (q : List Kon) : Prop where
  ss : SS w0 F wr (BMP p t vk vc vw q)
  ok : OKP (psOf q)
  few : FewAt (psOf q) m h
  nums : ∀ x, x ∈ allN (psOf q) ↔ FX N S E h x
theorem FL.set {w0 w2 wr : World} {F : List Nat} {p : Nat} {t : TypeId} {m : Nat} {N : List Nat} {S E h i : Nat} {vk vc vw : Value} {q : List Kon} {x y : Kon} (a : FL w0 F p t m N S E wr h vk vc vw q) (hSE : S < E) (h1 : S / 65536 ≤ h) (h2 : h ≤ (E - 1) / 65536)
    (hx : q[i]? = some x) (hk : x.key = h) (hy : y.key = x.key) (hl : y.l = xorS x.l (csOf S h) (clOf E h + 1)) (hne : xorS x.l (csOf S h) (clOf E h + 1) ≠ []) (hS : SS w0 F w2 (BMP p t vk vc vw (q.set i y))) : FL w0 F p t m N S E w2 (h + 1) vk vc vw (q.set i y) := by
  obtain ⟨c1, c2, c3⟩ := cs_cl hSE h1 h2
  have hp := psOf_at hx
  rw [hk] at hp
  have hpl := a.ok.2 _ (List.mem_of_getElem? hp)
  have e : psOf (q.set i y) = (psOf q).set i (h, xorS x.l (csOf S h) (clOf E h + 1)) := by rw [psOf_set, hy, hl, hk]
  obtain ⟨o1, o2⟩ := part_to a.ok hp (xorS_rising hpl.2.1 (s := csOf S h) (e := clOf E h + 1) (by omega)) (xorS_lt hpl.2.2.1 (by omega) (by omega)) hne
  refine ⟨hS, by rw [e]; exact o1, by rw [e]; exact few_xor a.ok a.few hp (by omega) (by omega), fun z => ?_⟩
  refine FX_step (A := allN (psOf q)) (l' := fun z => z ∈ xorS x.l (csOf S h) (clOf E h + 1)) hSE h1 h2 a.nums (fun u => by rw [e, o2]) (fun u hu => ?_) z
  rw [key_in a.ok hp hu, xorS_mem (by omega)]
theorem FL.del {w0 w2 wr : World} {F : List Nat} {p : Nat} {t : TypeId} {m : Nat} {N : List Nat} {S E h i : Nat} {vk vc vw vk' vc' vw' : Value} {q : List Kon} {x : Kon} (a : FL w0 F p t m N S E wr h vk vc vw q) (hSE : S < E) (h1 : S / 65536 ≤ h) (h2 : h ≤ (E - 1) / 65536)
    (hx : q[i]? = some x) (hk : x.key = h) (he : xorS x.l (csOf S h) (clOf E h + 1) = []) (hS : SS w0 F w2 (BMP p t vk' vc' vw' (q.eraseIdx i))) : FL w0 F p t m N S E w2 (h + 1) vk' vc' vw' (q.eraseIdx i) := by
  obtain ⟨c1, c2, c3⟩ := cs_cl hSE h1 h2
  have hp := psOf_at hx
  rw [hk] at hp
  have e : psOf (q.eraseIdx i) = (psOf q).eraseIdx i := psOf_del q i
  obtain ⟨o1, o2⟩ := part_gone a.ok hp
  refine ⟨hS, by rw [e]; exact o1, by rw [e]; exact few_more a.few (fun p hp => List.mem_of_mem_eraseIdx hp), fun z => ?_⟩
  refine FX_step (A := allN (psOf q)) (l' := fun z => z ∈ xorS x.l (csOf S h) (clOf E h + 1)) hSE h1 h2 a.nums (fun u => ?_) (fun u hu => ?_) z
  · rw [e, o2, he]
    exact ⟨fun g => .inl g, fun g => g.elim id (fun g => absurd g.2 List.not_mem_nil)⟩
  · rw [key_in a.ok hp hu, xorS_mem (by omega)]
theorem FL.ins {w0 w2 wr : World} {F : List Nat} {p : Nat} {t : TypeId} {m : Nat} {N : List Nat} {S E h : Nat} {vk vc vw vk' vc' vw' : Value} {q : List Kon} {y : Kon} (a : FL w0 F p t m N S E wr h vk vc vw q) (hSE : S < E) (hE : E ≤ 4294967296) (h1 : S / 65536 ≤ h) (h2 : h ≤ (E - 1) / 65536)
    (hno : (q.map (·.key))[lb (q.map (·.key)) h]? ≠ some h) (hy : y.key = h) (hl : y.l = List.range' (csOf S h) (clOf E h + 1 - csOf S h)) (hS : SS w0 F w2 (BMP p t vk' vc' vw' (insAt q (lb (q.map (·.key)) h) y))) :
    FL w0 F p t m N S E w2 (h + 1) vk' vc' vw' (insAt q (lb (q.map (·.key)) h) y) := by
  obtain ⟨c1, c2, c3⟩ := cs_cl hSE h1 h2
  have hno' : ((psOf q).map (·.1))[lb ((psOf q).map (·.1)) h]? ≠ some h := by rw [psOf_keys]; exact hno
  have e : psOf (insAt q (lb (q.map (·.key)) h) y) = insAt (psOf q) (lb ((psOf q).map (·.1)) h) (h, List.range' (csOf S h) (clOf E h + 1 - csOf S h)) := by rw [psOf_ins, hy, hl, psOf_keys]
  obtain ⟨o1, o2, o3⟩ := part_new (k := h) (l' := List.range' (csOf S h) (clOf E h + 1 - csOf S h)) a.ok (by omega) hno' List.pairwise_lt_range' (fun x hx => by rw [List.mem_range'_1] at hx; omega) (fun h0 => by have := congrArg List.length h0; rw [List.length_range'] at this; simp at this; omega)
  refine ⟨hS, by rw [e]; exact o1, by rw [e]; exact few_ins a.few (by omega), fun z => ?_⟩
  refine FX_step (A := allN (psOf q)) (l' := fun z => z ∈ List.range' (csOf S h) (clOf E h + 1 - csOf S h)) hSE h1 h2 a.nums (fun u => ?_) (fun u hu => ?_) z
  · rw [e, o2]
    exact or_congr ⟨fun g => ⟨g, o3 u g⟩, fun g => g.1⟩ Iff.rfl
  · have := key_out a.ok hno' hu
    rw [List.mem_range'_1]
    constructor
    · exact fun g => .inr ⟨this, by omega, by omega⟩
    · rintro (g | g)
      · exact absurd g.1 this
      · exact ⟨by omega, by omega⟩
end Go.Roar
