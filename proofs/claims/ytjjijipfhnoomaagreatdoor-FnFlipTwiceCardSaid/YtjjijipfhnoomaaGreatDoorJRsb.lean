/-
  Plain laws: runs without a range.
  Plain laws: runs of one list without those of another, as the library walks them.
  Plain laws: what two lists of runs have in common, as the library walks them.
  Plain laws: two lists of runs melted to one, as the library walks them.
  Plain laws: the runs of what a list of runs has not, as the library walks them.
-/
import Derived.Test.YtjjijipfhnoomaaGreatDoorJPtg
import Derived.Test.YtjjijipfhnoomaaGreatDoorJSr
namespace Go.Roar
open Go.RowKit Go.Proofs
/-- What a run keeps without the numbers from s up to t. -/
def piece (s t : Nat) (r : Nat × Nat) : List (Nat × Nat) := (if r.1 < s then [(r.1, min r.2 (s - 1))] else []) ++ (if t < r.2 then [(max r.1 (t + 1), r.2)] else [])
def subR (rs : List (Nat × Nat)) (s t : Nat) : List (Nat × Nat) := rs.flatMap (piece s t)
theorem subR_append (a b : List (Nat × Nat)) (s t : Nat) : subR (a ++ b) s t = subR a s t ++ subR b s t := by simp [subR]
theorem subR_cons (r : Nat × Nat) (b : List (Nat × Nat)) (s t : Nat) : subR (r :: b) s t = piece s t r ++ subR b s t := by simp [subR]
theorem piece_mem {s t : Nat} {r q : Nat × Nat} (hr : r.1 ≤ r.2) (h : q ∈ piece s t r) : r.1 ≤ q.1 ∧ q.1 ≤ q.2 ∧ q.2 ≤ r.2 := by
  unfold piece at h
  rcases List.mem_append.1 h with h | h
  · split at h
    · simp at h; subst h; exact ⟨Nat.le_refl _, by simp only; omega, by simp only; omega⟩
    · cases h
  · split at h
    · simp at h; subst h; exact ⟨by simp only; omega, by simp only; omega, Nat.le_refl _⟩
    · cases h
theorem piece_in {s t x : Nat} {r : Nat × Nat} (hst : s ≤ t) (_hr : r.1 ≤ r.2) : inR (piece s t r) x ↔ (r.1 ≤ x ∧ x ≤ r.2) ∧ ¬ (s ≤ x ∧ x ≤ t) := by
  unfold piece
  rw [inR_append]
  split <;> split <;> simp only [inR_one, inR_nil, or_false, false_or, or_self, false_iff] <;> omega
theorem subR_in {rs : List (Nat × Nat)} {s t : Nat} (h : ∀ r ∈ rs, r.1 ≤ r.2) (hst : s ≤ t) (x : Nat) : inR (subR rs s t) x ↔ inR rs x ∧ ¬ (s ≤ x ∧ x ≤ t) := by
  induction rs with
  | nil => simp [subR, inR_nil]
  | cons r rs ih =>
    rw [subR_cons, inR_append, inR_cons, ih (fun q hq => h q (List.mem_cons_of_mem _ hq)), piece_in hst (h r (List.mem_cons_self ..))]
    constructor
    · rintro (⟨h1, h2⟩ | ⟨h1, h2⟩)
      · exact ⟨.inl h1, h2⟩
      · exact ⟨.inr h1, h2⟩
    · rintro ⟨h1 | h1, h2⟩
      · exact .inl ⟨h1, h2⟩
      · exact .inr ⟨h1, h2⟩
theorem subR_ok {rs : List (Nat × Nat)} {n s t : Nat} (h : RgOK n rs) (hst : s ≤ t) : RgOK n (subR rs s t) := by
  induction rs with
  | nil => exact h
  | cons r rs ih =>
    obtain ⟨h1, h2⟩ := List.pairwise_cons.1 h.2
    have hr := h.1 r (List.mem_cons_self ..)
    have hs : RgOK n rs := ⟨fun q hq => h.1 q (List.mem_cons_of_mem _ hq), h2⟩
    have ih := ih hs
    have hmem : ∀ q ∈ subR rs s t, ∃ z ∈ rs, z.1 ≤ q.1 := fun q hq => by
      unfold subR at hq
      obtain ⟨z, hz, hq⟩ := List.mem_flatMap.1 hq
      exact ⟨z, hz, (piece_mem (hs.1 z hz).1 hq).1⟩
    rw [subR_cons]
    refine ⟨fun q hq => ?_, List.pairwise_append.2 ⟨?_, ih.2, fun p hp q hq => ?_⟩⟩
    · rcases List.mem_append.1 hq with hq | hq
      · have := piece_mem hr.1 hq
        exact ⟨this.2.1, by omega⟩
      · exact ih.1 q hq
    · unfold piece
      split <;> split <;> simp
      omega
    · have a1 := piece_mem hr.1 hp
      obtain ⟨z, hz, a2⟩ := hmem q hq
      have := h1 z hz
      omega
theorem subR_nums {rs : List (Nat × Nat)} {s t : Nat} (h : RgOK 65536 rs) (hst : s ≤ t) : rgNums (subR rs s t) = cutS (rgNums rs) s (t + 1) := by
  have ok := subR_ok h hst
  refine sorted_ext (rgNums_rising ok) (cutS_rising (rgNums_rising h) _ _) (fun x => ?_)
  rw [cutS_mem, rgNums_mem (fun r hr => (ok.1 r hr).1), rgNums_mem (fun r hr => (h.1 r hr).1)]
  have := subR_in (fun r hr => (h.1 r hr).1) hst x
  unfold inR at this
  rw [this]
  exact and_congr Iff.rfl (by omega)
theorem sub_before {rs : List (Nat × Nat)} {s t : Nat} (hr : ∀ r ∈ rs, r.1 ≤ r.2) (hst : s ≤ t) (h : ∀ r ∈ rs, r.2 < s) : subR rs s t = rs := by
  induction rs with
  | nil => rfl
  | cons r rs ih =>
    have h1 := h r (List.mem_cons_self ..)
    have h2 := hr r (List.mem_cons_self ..)
    rw [subR_cons, ih (fun q hq => hr q (List.mem_cons_of_mem _ hq)) (fun q hq => h q (List.mem_cons_of_mem _ hq))]
    unfold piece
    rw [if_pos (by omega), if_neg (by omega), Nat.min_eq_left (by omega)]
    rfl
theorem sub_after {rs : List (Nat × Nat)} {s t : Nat} (hr : ∀ r ∈ rs, r.1 ≤ r.2) (hst : s ≤ t) (h : ∀ r ∈ rs, t < r.1) : subR rs s t = rs := by
  induction rs with
  | nil => rfl
  | cons r rs ih =>
    have h1 := h r (List.mem_cons_self ..)
    have h2 := hr r (List.mem_cons_self ..)
    rw [subR_cons, ih (fun q hq => hr q (List.mem_cons_of_mem _ hq)) (fun q hq => h q (List.mem_cons_of_mem _ hq))]
    unfold piece
    rw [if_neg (by omega), if_pos (by omega), Nat.max_eq_left (by omega)]
    rfl
theorem sub_gone {rs : List (Nat × Nat)} {s t : Nat} (h : ∀ r ∈ rs, s ≤ r.1 ∧ r.2 ≤ t) : subR rs s t = [] := by
  induction rs with
  | nil => rfl
  | cons r rs ih =>
    have h1 := h r (List.mem_cons_self ..)
    rw [subR_cons, ih (fun q hq => h q (List.mem_cons_of_mem _ hq))]
    unfold piece
    rw [if_neg (by omega), if_neg (by omega)]
    rfl
theorem spot_le {rs : List (Nat × Nat)} {s t i j : Nat} (hi : Spot16 rs 0 s i) (hj : Spot16 rs 0 t j) (hst : s ≤ t) : i ≤ j := by
  rcases Nat.lt_or_ge j i with h | h
  · have hl := hi.2.1
    obtain ⟨r, hr⟩ : ∃ r, rs[j]? = some r := ⟨_, List.getElem?_eq_getElem (by omega)⟩
    have h1 := hi.2.2.1 j r (Nat.zero_le _) h hr
    have h2 := hj.2.2.2 r hr
    omega
  · exact h
/-- Between the two places the runs go; ahead and behind they stay. -/
theorem sub_spots {rs : List (Nat × Nat)} {s t i j : Nat} (h : RgOK 65536 rs) (hst : s ≤ t) (hi : Spot16 rs 0 s i) (hj : Spot16 rs 0 t j) :
    subR (rs.take i) s t = rs.take i ∧ subR (rs.drop (j + 1)) s t = rs.drop (j + 1) ∧ ((∀ r, rs[j]? = some r → t < r.1) → subR (rs.drop j) s t = rs.drop j) ∧ subR ((rs.take j).drop (i + 1)) s t = [] ∧ ((∀ r, rs[i]? = some r → s < r.1) → subR ((rs.take j).drop i) s t = []) := by
  have hb : ∀ (k : Nat) (r : Nat × Nat), rs[k]? = some r → r.1 ≤ r.2 := fun k r hr => (h.1 r (List.mem_of_getElem? hr)).1
  have hlt : ∀ (a b : Nat) (p q : Nat × Nat), a < b → rs[a]? = some p → rs[b]? = some q → p.2 + 1 < q.1 := fun a b p q hab hp hq => by
    obtain ⟨h1, e1⟩ := List.getElem?_eq_some_iff.1 hp
    obtain ⟨h2, e2⟩ := List.getElem?_eq_some_iff.1 hq
    have := List.pairwise_iff_getElem.1 h.2 a b h1 h2 hab
    rw [e1, e2] at this
    exact this
  have hdrop : ∀ k r, r ∈ rs.drop k → ∃ m, k ≤ m ∧ rs[m]? = some r := fun k r hr => by
    obtain ⟨m, hm⟩ := List.getElem?_of_mem hr
    rw [List.getElem?_drop] at hm
    exact ⟨k + m, by omega, hm⟩
  have hmid : ∀ k r, r ∈ (rs.take j).drop k → ∃ m, k ≤ m ∧ m < j ∧ rs[m]? = some r := fun k r hr => by
    obtain ⟨m, hm⟩ := List.getElem?_of_mem hr
    rw [List.getElem?_drop] at hm
    have hml : k + m < j := by have := (List.getElem?_eq_some_iff.1 hm).1; simp at this; omega
    rw [List.getElem?_take_of_lt hml] at hm
    exact ⟨k + m, by omega, hml, hm⟩
  have htake : ∀ r ∈ rs.take i, ∃ m, m < i ∧ rs[m]? = some r := fun r hr => by
    obtain ⟨m, hm⟩ := List.getElem?_of_mem hr
    have hml : m < i := by have := (List.getElem?_eq_some_iff.1 hm).1; simp at this; omega
    rw [List.getElem?_take_of_lt hml] at hm
    exact ⟨m, hml, hm⟩
  refine ⟨sub_before (fun r hr => ?_) hst (fun r hr => ?_), sub_after (fun r hr => ?_) hst (fun r hr => ?_), fun hn => sub_after (fun r hr => ?_) hst (fun r hr => ?_), sub_gone (fun r hr => ?_), fun hn => sub_gone (fun r hr => ?_)⟩
  · obtain ⟨m, _, hm⟩ := htake r hr; exact hb m r hm
  · obtain ⟨m, h1, hm⟩ := htake r hr; exact hi.2.2.1 m r (Nat.zero_le _) h1 hm
  · obtain ⟨m, _, hm⟩ := hdrop _ r hr; exact hb m r hm
  · obtain ⟨m, h1, hm⟩ := hdrop _ r hr
    have hml := (List.getElem?_eq_some_iff.1 hm).1
    obtain ⟨q, hq⟩ : ∃ q, rs[j]? = some q := ⟨_, List.getElem?_eq_getElem (by omega)⟩
    have h2 := hj.2.2.2 q hq
    have h3 := hlt j m q r (by omega) hq hm
    omega
  · obtain ⟨m, _, hm⟩ := hdrop _ r hr; exact hb m r hm
  · obtain ⟨m, h1, hm⟩ := hdrop _ r hr
    rcases Nat.eq_or_lt_of_le h1 with h1 | h1
    · subst h1; exact hn r hm
    · have hml := (List.getElem?_eq_some_iff.1 hm).1
      obtain ⟨q, hq⟩ : ∃ q, rs[j]? = some q := ⟨_, List.getElem?_eq_getElem (by omega)⟩
      have h2 := hj.2.2.2 q hq
      have h3 := hlt j m q r (by omega) hq hm
      omega
  · obtain ⟨m, h1, h2, hm⟩ := hmid _ r hr
    have h3 := hj.2.2.1 m r (Nat.zero_le _) h2 hm
    have hml := (List.getElem?_eq_some_iff.1 hm).1
    obtain ⟨q, hq⟩ : ∃ q, rs[i]? = some q := ⟨_, List.getElem?_eq_getElem (by omega)⟩
    have h4 := hi.2.2.2 q hq
    have h5 := hlt i m q r (by omega) hq hm
    omega
  · obtain ⟨m, h1, h2, hm⟩ := hmid _ r hr
    have h3 := hj.2.2.1 m r (Nat.zero_le _) h2 hm
    rcases Nat.eq_or_lt_of_le h1 with h1 | h1
    · subst h1; have := hn r hm; omega
    · have hml := (List.getElem?_eq_some_iff.1 hm).1
      obtain ⟨q, hq⟩ : ∃ q, rs[i]? = some q := ⟨_, List.getElem?_eq_getElem (by omega)⟩
      have h4 := hi.2.2.2 q hq
      have h5 := hlt i m q r (by omega) hq hm
      omega
theorem list_three {α : Type} (l : List α) {i j : Nat} (hij : i ≤ j) : l = l.take i ++ ((l.take j).drop i ++ l.drop j) := by
  have h1 := (List.take_append_drop i (l.take j)).symm
  rw [List.take_take, Nat.min_eq_left hij] at h1
  rw [← List.append_assoc, ← h1, List.take_append_drop]
theorem drop_one {α : Type} {l : List α} {i : Nat} {r : α} (h : l[i]? = some r) : l.drop i = r :: l.drop (i + 1) := by
  obtain ⟨hi, rfl⟩ := List.getElem?_eq_some_iff.1 h
  exact List.drop_eq_getElem_cons hi
/-- Both ends of the range are in runs. -/
theorem sub_both {rs : List (Nat × Nat)} {s t i j : Nat} {p q : Nat × Nat} (h : RgOK 65536 rs) (hst : s ≤ t) (hi : Spot16 rs 0 s i) (hj : Spot16 rs 0 t j) (hp : rs[i]? = some p) (hq : rs[j]? = some q) :
    subR rs s t = rs.take i ++ ((if i = j then piece s t p else piece s t p ++ piece s t q) ++ rs.drop (j + 1)) := by
  obtain ⟨h1, h2, _, h4, _⟩ := sub_spots h hst hi hj
  have hij := spot_le hi hj hst
  by_cases he : i = j
  · subst he
    rw [if_pos rfl]
    conv => lhs; rw [← List.take_append_drop i rs, drop_one hp]
    rw [subR_append, subR_cons, h1, h2]
  · rw [if_neg he]
    have e : (rs.take j).drop i = p :: (rs.take j).drop (i + 1) := drop_one (by rw [List.getElem?_take_of_lt (by omega)]; exact hp)
    conv => lhs; rw [list_three rs hij, e, drop_one hq]
    rw [subR_append, subR_append, subR_cons, subR_cons, h1, h2, h4, List.append_nil, List.append_assoc]
/-- No end is in a run. -/
theorem sub_none {rs : List (Nat × Nat)} {s t i j : Nat} (h : RgOK 65536 rs) (hst : s ≤ t) (hi : Spot16 rs 0 s i) (hj : Spot16 rs 0 t j) (hp : ∀ r, rs[i]? = some r → s < r.1) (hq : ∀ r, rs[j]? = some r → t < r.1) :
    subR rs s t = rs.take i ++ rs.drop j := by
  obtain ⟨h1, _, h3, _, h5⟩ := sub_spots h hst hi hj
  have hij := spot_le hi hj hst
  conv => lhs; rw [list_three rs hij]
  rw [subR_append, subR_append, h1, h3 hq, h5 hp, List.nil_append]
/-- The first end alone. -/
theorem sub_first {rs : List (Nat × Nat)} {s t i j : Nat} {p : Nat × Nat} (h : RgOK 65536 rs) (hst : s ≤ t) (hi : Spot16 rs 0 s i) (hj : Spot16 rs 0 t j) (hp : rs[i]? = some p) (hps : p.1 ≤ s) (hq : ∀ r, rs[j]? = some r → t < r.1) :
    i < j ∧ subR rs s t = rs.take i ++ (piece s t p ++ rs.drop j) := by
  obtain ⟨h1, _, h3, h4, _⟩ := sub_spots h hst hi hj
  have hij := spot_le hi hj hst
  have hlt : i < j := by
    rcases Nat.eq_or_lt_of_le hij with he | he
    · subst he; have := hq p hp; omega
    · exact he
  have e : (rs.take j).drop i = p :: (rs.take j).drop (i + 1) := drop_one (by rw [List.getElem?_take_of_lt (by omega)]; exact hp)
  refine ⟨hlt, ?_⟩
  conv => lhs; rw [list_three rs hij, e]
  rw [subR_append, subR_append, subR_cons, h1, h3 hq, h4, List.append_nil]
/-- The last end alone. -/
theorem sub_last {rs : List (Nat × Nat)} {s t i j : Nat} {q : Nat × Nat} (h : RgOK 65536 rs) (hst : s ≤ t) (hi : Spot16 rs 0 s i) (hj : Spot16 rs 0 t j) (hp : ∀ r, rs[i]? = some r → s < r.1) (hq : rs[j]? = some q) :
    subR rs s t = rs.take i ++ (piece s t q ++ rs.drop (j + 1)) := by
  obtain ⟨h1, h2, _, _, h5⟩ := sub_spots h hst hi hj
  have hij := spot_le hi hj hst
  conv => lhs; rw [list_three rs hij, drop_one hq]
  rw [subR_append, subR_append, subR_cons, h1, h2, h5 hp, List.nil_append]
theorem piece_len (s t : Nat) (r : Nat × Nat) : (piece s t r).length ≤ 2 := by unfold piece; split <;> split <;> simp
theorem subR_none {rs : List (Nat × Nat)} {s t : Nat} (h : ∀ r ∈ rs, r.1 ≤ r.2) (hst : s ≤ t) (hn : ∀ r ∈ rs, r.2 < s ∨ t < r.1) : subR rs s t = rs := by
  induction rs with
  | nil => rfl
  | cons r rs ih =>
    rw [subR_cons, ih (fun q hq => h q (List.mem_cons_of_mem _ hq)) (fun q hq => hn q (List.mem_cons_of_mem _ hq))]
    have h1 := h r (List.mem_cons_self ..)
    have e : piece s t r = [r] := by
      unfold piece
      rcases hn r (List.mem_cons_self ..) with h2 | h2
      · rw [if_pos (by omega), if_neg (by omega), Nat.min_eq_left (by omega)]; rfl
      · rw [if_neg (by omega), if_pos (by omega), Nat.max_eq_left (by omega)]; rfl
    rw [e]; rfl
end Go.Roar

namespace Go.Roar
open Go.RowKit Go.Proofs
theorem rg_lt {a : List (Nat × Nat)} {n k m : Nat} {p q : Nat × Nat} (h : RgOK n a) (hkm : k < m) (hp : a[k]? = some p) (hq : a[m]? = some q) : p.2 + 1 < q.1 := by
  obtain ⟨h1, e1⟩ := List.getElem?_eq_some_iff.1 hp
  obtain ⟨h2, e2⟩ := List.getElem?_eq_some_iff.1 hq
  have := List.pairwise_iff_getElem.1 h.2 k m h1 h2 hkm
  rw [e1, e2] at this
  exact this
theorem rg_at {a : List (Nat × Nat)} {n k : Nat} {p : Nat × Nat} (h : RgOK n a) (hp : a[k]? = some p) : p.1 ≤ p.2 ∧ p.2 < n := h.1 p (List.mem_of_getElem? hp)
theorem inR_at {a : List (Nat × Nat)} {x : Nat} : inR a x ↔ ∃ (k : Nat) (r : Nat × Nat), a[k]? = some r ∧ r.1 ≤ x ∧ x ≤ r.2 := by
  unfold inR
  constructor
  · rintro ⟨r, hr, h⟩
    obtain ⟨k, hk⟩ := List.getElem?_of_mem hr
    exact ⟨k, r, hk, h⟩
  · rintro ⟨k, r, hk, h⟩
    exact ⟨r, List.mem_of_getElem? hk, h⟩
/-- A number of a list from the run i on, and ahead of the run that follows, is in the run i. -/
theorem rg_here {a : List (Nat × Nat)} {n i x : Nat} {r : Nat × Nat} (h : RgOK n a) (hi : a[i]? = some r) (hx : inR a x) (h2 : ∀ r', a[i + 1]? = some r' → x < r'.1) : x ≤ r.2 := by
  obtain ⟨k, p, hk, p1, p2⟩ := inR_at.1 hx
  rcases Nat.lt_trichotomy k i with hki | hki | hki
  · have := rg_lt h hki hk hi; have := rg_at h hi; omega
  · subst hki; rw [hi] at hk; cases hk; exact p2
  · have hl := (List.getElem?_eq_some_iff.1 hk).1
    obtain ⟨q, hq⟩ : ∃ q, a[i + 1]? = some q := ⟨_, List.getElem?_eq_getElem (by omega)⟩
    have h3 := h2 q hq
    rcases Nat.eq_or_lt_of_le (show i + 1 ≤ k from hki) with e | e
    · rw [e] at hq; rw [hq] at hk; cases hk; omega
    · have := rg_lt h e hq hk; have := rg_at h hq; omega
theorem rgok_snoc {d : List (Nat × Nat)} {n s t : Nat} (h : RgOK n d) (hst : s ≤ t) (ht : t < n) (hd : ∀ q ∈ d, q.2 + 1 < s) : RgOK n (d ++ [(s, t)]) := by
  refine ⟨fun q hq => ?_, List.pairwise_append.2 ⟨h.2, by simp, fun p hp q hq => ?_⟩⟩
  · rcases List.mem_append.1 hq with hq | hq
    · exact h.1 q hq
    · simp at hq; subst hq; exact ⟨hst, ht⟩
  · simp at hq; subst hq; exact hd p hp
/-- Where AndNot stands: a's run i from s on, b's runs from j on, d is found. -/
structure AN (a b : List (Nat × Nat)) (i j s : Nat) (d : List (Nat × Nat)) : Prop where
  hi : i ≤ a.length
  hj : j ≤ b.length
  ok : RgOK 65536 d
  here : ∀ r, a[i]? = some r → r.1 ≤ s ∧ s ≤ r.2
  gap : ∀ q ∈ d, ∀ r, a[i]? = some r → q.2 + 1 < s
  bef : ∀ k v r, k < j → b[k]? = some v → a[i]? = some r → v.2 < s
  mem : ∀ x, inR d x ↔ inR a x ∧ ¬ inR b x ∧ ∀ r, a[i]? = some r → x < s
theorem AN.start {a b : List (Nat × Nat)} {r : Nat × Nat} (ha : RgOK 65536 a) (h : a[0]? = some r) : AN a b 0 0 r.1 [] := by
  refine ⟨Nat.zero_le _, Nat.zero_le _, RgOK.nil _, fun q hq => ?_, by simp, fun k v r hk => by omega, fun x => ⟨fun hx => absurd hx (inR_nil x), fun ⟨h1, _, h3⟩ => ?_⟩⟩
  · rw [h] at hq; cases hq; exact ⟨Nat.le_refl _, (rg_at ha h).1⟩
  · exfalso
    have h4 := h3 r h
    obtain ⟨k, p, hk, p1, p2⟩ := inR_at.1 h1
    rcases Nat.eq_zero_or_pos k with rfl | hk0
    · rw [h] at hk; cases hk; omega
    · have := rg_lt ha hk0 h hk; have := rg_at ha h; omega
/-- The run ends ahead of b's run: what is left of it is kept. -/
theorem AN.keep {a b d : List (Nat × Nat)} {i j s s' : Nat} {r : Nat × Nat} (h : AN a b i j s d) (ha : RgOK 65536 a) (hb : RgOK 65536 b) (hr : a[i]? = some r) (hv : ∀ v, b[j]? = some v → r.2 < v.1) (hs : ∀ r', a[i + 1]? = some r' → s' = r'.1) : AN a b (i + 1) j s' (d ++ [(s, r.2)]) := by
  have hh := h.here r hr
  have hr2 := rg_at ha hr
  have hil := (List.getElem?_eq_some_iff.1 hr).1
  refine ⟨hil, h.hj, rgok_snoc h.ok hh.2 hr2.2 (fun q hq => h.gap q hq r hr), fun r' hr' => ?_, fun q hq r' hr' => ?_, fun k v r' hk hv' hr' => ?_, fun x => ?_⟩
  · rw [hs r' hr']; exact ⟨Nat.le_refl _, (rg_at ha hr').1⟩
  · have h1 := rg_lt ha (Nat.lt_succ_self i) hr hr'
    rw [hs r' hr']
    rcases List.mem_append.1 hq with hq | hq
    · have := h.gap q hq r hr; omega
    · simp at hq; subst hq; exact h1
  · have h1 := rg_lt ha (Nat.lt_succ_self i) hr hr'
    have h2 := h.bef k v r hk hv' hr
    rw [hs r' hr']; omega
  · rw [inR_append, inR_one, h.mem]
    constructor
    · rintro (⟨h1, h2, h3⟩ | ⟨h1, h2⟩)
      · refine ⟨h1, h2, fun r' hr' => ?_⟩
        have h4 := rg_lt ha (Nat.lt_succ_self i) hr hr'
        have h5 := h3 r hr
        rw [hs r' hr']; omega
      · dsimp only at h1 h2
        refine ⟨inR_at.2 ⟨i, r, hr, by omega, h2⟩, fun hx => ?_, fun r' hr' => ?_⟩
        · obtain ⟨k, v, hk, v1, v2⟩ := inR_at.1 hx
          rcases Nat.lt_or_ge k j with hkj | hkj
          · have := h.bef k v r hkj hk hr; omega
          · have hkl := (List.getElem?_eq_some_iff.1 hk).1
            obtain ⟨u, hu⟩ : ∃ u, b[j]? = some u := ⟨_, List.getElem?_eq_getElem (by omega)⟩
            have h3 := hv u hu
            rcases Nat.eq_or_lt_of_le hkj with e | e
            · subst e; rw [hu] at hk; cases hk; omega
            · have := rg_lt hb e hu hk; have := rg_at hb hu; omega
        · have h4 := rg_lt ha (Nat.lt_succ_self i) hr hr'
          rw [hs r' hr']; omega
    · rintro ⟨h1, h2, h3⟩
      by_cases hx : x < s
      · exact .inl ⟨h1, h2, fun r' hr' => hx⟩
      · exact .inr ⟨by dsimp only; omega, rg_here (r := r) ha hr h1 (fun r' hr' => by have := h3 r' hr'; rw [hs r' hr'] at this; exact this)⟩
/-- b's run ends ahead of what is left. -/
theorem AN.pass {a b d : List (Nat × Nat)} {i j s : Nat} {v : Nat × Nat} (h : AN a b i j s d) (hv : b[j]? = some v) (hs : v.2 < s) : AN a b i (j + 1) s d := by
  refine ⟨h.hi, (List.getElem?_eq_some_iff.1 hv).1, h.ok, h.here, h.gap, fun k u r hk hu hr => ?_, h.mem⟩
  rcases Nat.eq_or_lt_of_le (Nat.le_of_lt_succ hk) with e | e
  · subst e; rw [hv] at hu; cases hu; exact hs
  · exact h.bef k u r e hu hr
/-- What comes ahead of b's run is kept. -/
def anD (d : List (Nat × Nat)) (s v : Nat) : List (Nat × Nat) := if s < v then d ++ [(s, v - 1)] else d
theorem anD_ok {d : List (Nat × Nat)} {s v : Nat} (h : RgOK 65536 d) (hv : v < 65536) (hd : ∀ q ∈ d, q.2 + 1 < s) : RgOK 65536 (anD d s v) ∧ ∀ q ∈ anD d s v, q.2 < v ∨ q.2 + 1 < s := by
  unfold anD
  split
  · refine ⟨rgok_snoc h (by omega) (by omega) hd, fun q hq => ?_⟩
    rcases List.mem_append.1 hq with hq | hq
    · exact .inr (hd q hq)
    · simp at hq; subst hq; left; dsimp only; omega
  · exact ⟨h, fun q hq => .inr (hd q hq)⟩
theorem anD_mem {d : List (Nat × Nat)} {s v x : Nat} : inR (anD d s v) x ↔ inR d x ∨ (s ≤ x ∧ x < v) := by
  unfold anD
  split
  · rw [inR_append, inR_one]
    exact or_congr Iff.rfl (by dsimp only; omega)
  · exact ⟨.inl, fun h => h.elim id (fun h => by omega)⟩
theorem AN.over {a b d : List (Nat × Nat)} {i j s x : Nat} {r v : Nat × Nat} (h : AN a b i j s d) (ha : RgOK 65536 a) (hb : RgOK 65536 b) (hr : a[i]? = some r) (hv : b[j]? = some v) (h1 : v.1 ≤ r.2) (hx : x ≤ v.2 ∨ ∀ r', a[i + 1]? = some r' → x < r'.1) (hx2 : x ≤ v.2 ∨ r.2 ≤ v.2) :
    inR (anD d s v.1) x ↔ inR a x ∧ ¬ inR b x := by
  have hh := h.here r hr
  rw [anD_mem, h.mem]
  constructor
  · rintro (⟨g1, g2, _⟩ | ⟨g1, g2⟩)
    · exact ⟨g1, g2⟩
    · refine ⟨inR_at.2 ⟨i, r, hr, by omega, by omega⟩, fun hx => ?_⟩
      obtain ⟨k, u, hk, u1, u2⟩ := inR_at.1 hx
      rcases Nat.lt_trichotomy k j with e | e | e
      · have := h.bef k u r e hk hr; omega
      · subst e; rw [hv] at hk; cases hk; omega
      · have := rg_lt hb e hv hk; have := rg_at hb hv; omega
  · rintro ⟨g1, g2⟩
    by_cases hxs : x < s
    · exact .inl ⟨g1, g2, fun r' hr' => hxs⟩
    · right
      refine ⟨by omega, ?_⟩
      rcases Nat.lt_or_ge x v.1 with g3 | g3
      · exact g3
      · exfalso
        rcases Nat.lt_or_ge v.2 x with g4 | g4
        · have g5 := rg_here ha hr g1 (hx.resolve_left (by omega))
          omega
        · exact g2 (inR_at.2 ⟨j, v, hv, g3, g4⟩)
/-- b's run ends within a's run. -/
theorem AN.cut {a b d : List (Nat × Nat)} {i j s : Nat} {r v : Nat × Nat} (h : AN a b i j s d) (ha : RgOK 65536 a) (hb : RgOK 65536 b) (hr : a[i]? = some r) (hv : b[j]? = some v) (h1 : v.1 ≤ r.2) (h2 : s ≤ v.2) (h3 : v.2 < r.2) : AN a b i j (v.2 + 1) (anD d s v.1) := by
  have hh := h.here r hr
  have hv1 := rg_at hb hv
  obtain ⟨o1, o2⟩ := anD_ok (v := v.1) h.ok (by omega) (fun q hq => h.gap q hq r hr)
  refine ⟨h.hi, h.hj, o1, fun r' hr' => ?_, fun q hq r' _ => ?_, fun k u r' hk hu hr' => ?_, fun x => ?_⟩
  · rw [hr] at hr'; cases hr'; omega
  · rcases o2 q hq with g | g <;> omega
  · have := h.bef k u r' hk hu hr'; omega
  · constructor
    · intro g
      have hxv : x ≤ v.2 := by
        rcases anD_mem.1 g with g | g
        · have := ((h.mem x).1 g).2.2 r hr; omega
        · omega
      have := (h.over ha hb hr hv h1 (.inl hxv) (.inl hxv)).1 g
      exact ⟨this.1, this.2, fun r' hr' => by omega⟩
    · rintro ⟨g1, g2, g3⟩
      have := g3 r hr
      exact (h.over ha hb hr hv h1 (.inl (by omega)) (.inl (by omega))).2 ⟨g1, g2⟩
/-- a's run ends within b's run. -/
theorem AN.next {a b d : List (Nat × Nat)} {i j s s' : Nat} {r v : Nat × Nat} (h : AN a b i j s d) (ha : RgOK 65536 a) (hb : RgOK 65536 b) (hr : a[i]? = some r) (hv : b[j]? = some v) (h1 : v.1 ≤ r.2) (h3 : r.2 ≤ v.2) (hs : ∀ r', a[i + 1]? = some r' → s' = r'.1) : AN a b (i + 1) j s' (anD d s v.1) := by
  have hh := h.here r hr
  have hv1 := rg_at hb hv
  have hil := (List.getElem?_eq_some_iff.1 hr).1
  obtain ⟨o1, o2⟩ := anD_ok (v := v.1) h.ok (by omega) (fun q hq => h.gap q hq r hr)
  refine ⟨hil, h.hj, o1, fun r' hr' => ?_, fun q hq r' hr' => ?_, fun k u r' hk hu hr' => ?_, fun x => ?_⟩
  · rw [hs r' hr']; exact ⟨Nat.le_refl _, (rg_at ha hr').1⟩
  · have h4 := rg_lt ha (Nat.lt_succ_self i) hr hr'
    rw [hs r' hr']
    rcases o2 q hq with g | g <;> omega
  · have h4 := rg_lt ha (Nat.lt_succ_self i) hr hr'
    have := h.bef k u r hk hu hr
    rw [hs r' hr']; omega
  · constructor
    · intro g
      have hx : ∀ r', a[i + 1]? = some r' → x < r'.1 := fun r' hr' => by
        have h4 := rg_lt ha (Nat.lt_succ_self i) hr hr'
        rcases anD_mem.1 g with g | g
        · have := ((h.mem x).1 g).2.2 r hr; omega
        · omega
      have := (h.over ha hb hr hv h1 (.inr hx) (.inr h3)).1 g
      exact ⟨this.1, this.2, fun r' hr' => by rw [hs r' hr']; exact hx r' hr'⟩
    · rintro ⟨g1, g2, g3⟩
      exact (h.over ha hb hr hv h1 (.inr fun r' hr' => by have := g3 r' hr'; rw [hs r' hr'] at this; exact this) (.inr h3)).2 ⟨g1, g2⟩
/-- a is at its end. -/
theorem AN.done {a b d : List (Nat × Nat)} {j s : Nat} (h : AN a b a.length j s d) (x : Nat) : inR d x ↔ inR a x ∧ ¬ inR b x := by
  rw [h.mem]
  exact ⟨fun ⟨h1, h2, _⟩ => ⟨h1, h2⟩, fun ⟨h1, h2⟩ => ⟨h1, h2, fun r hr => by rw [List.getElem?_eq_none (Nat.le_refl _)] at hr; cases hr⟩⟩
/-- b is at its end: the rest of a stays. -/
theorem AN.rest {a b d : List (Nat × Nat)} {i s : Nat} {r : Nat × Nat} (h : AN a b i b.length s d) (ha : RgOK 65536 a) (hr : a[i]? = some r) : RgOK 65536 (d ++ ((s, r.2) :: a.drop (i + 1))) ∧ ∀ x, inR (d ++ ((s, r.2) :: a.drop (i + 1))) x ↔ inR a x ∧ ¬ inR b x := by
  have hh := h.here r hr
  have hr2 := rg_at ha hr
  have hdr : ∀ q ∈ a.drop (i + 1), ∃ k, i < k ∧ a[k]? = some q := fun q hq => by
    obtain ⟨k, hk⟩ := List.getElem?_of_mem hq
    rw [List.getElem?_drop] at hk
    exact ⟨i + 1 + k, by omega, hk⟩
  refine ⟨⟨fun q hq => ?_, List.pairwise_append.2 ⟨h.ok.2, List.pairwise_cons.2 ⟨fun q hq => ?_, ha.2.sublist (List.drop_sublist _ _)⟩, fun p hp q hq => ?_⟩⟩, fun x => ?_⟩
  · rcases List.mem_append.1 hq with hq | hq
    · exact h.ok.1 q hq
    · rcases List.mem_cons.1 hq with rfl | hq
      · exact ⟨hh.2, hr2.2⟩
      · exact ha.1 q (List.mem_of_mem_drop hq)
  · obtain ⟨k, hk, hq⟩ := hdr q hq
    exact rg_lt (p := r) ha hk hr hq
  · have h1 := h.gap p hp r hr
    rcases List.mem_cons.1 hq with rfl | hq
    · exact h1
    · obtain ⟨k, hk, hq⟩ := hdr q hq
      have := rg_lt ha hk hr hq
      omega
  · rw [inR_append, inR_cons, h.mem]
    constructor
    · rintro (⟨g1, g2, _⟩ | g | g)
      · exact ⟨g1, g2⟩
      · dsimp only at g
        refine ⟨inR_at.2 ⟨i, r, hr, by omega, g.2⟩, fun hx => ?_⟩
        obtain ⟨k, v, hk, v1, v2⟩ := inR_at.1 hx
        have := h.bef k v r (List.getElem?_eq_some_iff.1 hk).1 hk hr
        omega
      · obtain ⟨q, hq, q1, q2⟩ := g
        obtain ⟨m, hm, hq⟩ := hdr q hq
        have h1 := rg_lt ha hm hr hq
        refine ⟨inR_at.2 ⟨m, q, hq, q1, q2⟩, fun hx => ?_⟩
        obtain ⟨k, v, hk, v1, v2⟩ := inR_at.1 hx
        have := h.bef k v r (List.getElem?_eq_some_iff.1 hk).1 hk hr
        omega
    · rintro ⟨g1, g2⟩
      by_cases hx : x < s
      · exact .inl ⟨g1, g2, fun r' hr' => hx⟩
      · right
        obtain ⟨k, p, hk, p1, p2⟩ := inR_at.1 g1
        rcases Nat.lt_trichotomy k i with e | e | e
        · have := rg_lt ha e hk hr; omega
        · subst e; rw [hr] at hk; cases hk; exact .inl ⟨by dsimp only; omega, p2⟩
        · exact .inr ⟨p, List.mem_of_getElem? (i := k - (i + 1)) (by rw [List.getElem?_drop, show i + 1 + (k - (i + 1)) = k by omega]; exact hk), p1, p2⟩
end Go.Roar

namespace Go.Roar
open Go.RowKit Go.Proofs
/-- Where intersect stands: a's run i from s on, b's run j from u on, d is found. -/
structure IN (a b : List (Nat × Nat)) (i j s u : Nat) (d : List (Nat × Nat)) : Prop where
  ok : RgOK 65536 d
  ha : ∀ r, a[i]? = some r → r.1 ≤ s ∧ s ≤ r.2
  hb : ∀ r, b[j]? = some r → r.1 ≤ u ∧ u ≤ r.2
  gap : ∀ q ∈ d, q.2 + 1 < max s u
  mem : ∀ x, inR d x ↔ inR a x ∧ inR b x ∧ (x < s ∨ x < u)
theorem first_low {a : List (Nat × Nat)} {n x : Nat} {r : Nat × Nat} (ha : RgOK n a) (h : a[0]? = some r) (hx : inR a x) : r.1 ≤ x := by
  obtain ⟨k, p, hk, p1, p2⟩ := inR_at.1 hx
  rcases Nat.eq_zero_or_pos k with rfl | hk0
  · rw [h] at hk; cases hk; exact p1
  · have := rg_lt ha hk0 h hk; have := rg_at ha h; omega
theorem IN.start {a b : List (Nat × Nat)} {r v : Nat × Nat} (ha : RgOK 65536 a) (hb : RgOK 65536 b) (hr : a[0]? = some r) (hv : b[0]? = some v) : IN a b 0 0 r.1 v.1 [] := by
  refine ⟨RgOK.nil _, fun q hq => ?_, fun q hq => ?_, by simp, fun x => ⟨fun hx => absurd hx (inR_nil x), fun ⟨h1, h2, h3⟩ => ?_⟩⟩
  · rw [hr] at hq; cases hq; exact ⟨Nat.le_refl _, (rg_at ha hr).1⟩
  · rw [hv] at hq; cases hq; exact ⟨Nat.le_refl _, (rg_at hb hv).1⟩
  · have := first_low ha hr h1
    have := first_low hb hv h2
    omega
/-- Ahead of the run k nothing reaches up to x, from the run i's rest on. -/
theorem no_run {a : List (Nat × Nat)} {n i k x u : Nat} {r : Nat × Nat} (ha : RgOK n a) (hr : a[i]? = some r) (hru : r.2 < u) (hk : ∀ m q, i < m → m < k → a[m]? = some q → q.2 < u) (hx : inR a x) (hu : u ≤ x) : ∃ m q, k ≤ m ∧ a[m]? = some q ∧ q.1 ≤ x ∧ x ≤ q.2 := by
  obtain ⟨m, q, hm, q1, q2⟩ := inR_at.1 hx
  refine ⟨m, q, ?_, hm, q1, q2⟩
  rcases Nat.lt_or_ge m k with h | h
  · exfalso
    rcases Nat.lt_trichotomy m i with e | e | e
    · have := rg_lt ha e hm hr; have := rg_at ha hr; omega
    · subst e; rw [hr] at hm; cases hm; omega
    · have := hk m q e h hm; omega
  · exact h
/-- a's run ends ahead of b's: a goes on at the run k. -/
theorem IN.skipA {a b d : List (Nat × Nat)} {i j k s u : Nat} {r q : Nat × Nat} (h : IN a b i j s u d) (ha : RgOK 65536 a) (hr : a[i]? = some r) (hsu : s < u) (hru : r.2 < u) (hik : i < k) (hk : ∀ m q, i < m → m < k → a[m]? = some q → q.2 < u) (hq : a[k]? = some q) : IN a b k j q.1 u d := by
  have h1 := rg_lt ha hik hr hq
  have h2 := h.ha r hr
  refine ⟨h.ok, fun z hz => ?_, h.hb, fun z hz => ?_, fun x => ?_⟩
  · rw [hq] at hz; cases hz; exact ⟨Nat.le_refl _, (rg_at ha hq).1⟩
  · have := h.gap z hz; omega
  · rw [h.mem]
    constructor
    · rintro ⟨g1, g2, g3⟩; exact ⟨g1, g2, .inr (by omega)⟩
    · rintro ⟨g1, g2, g3⟩
      refine ⟨g1, g2, .inr ?_⟩
      rcases Nat.lt_or_ge x u with g4 | g4
      · exact g4
      · exfalso
        obtain ⟨m, z, m1, m2, m3, m4⟩ := no_run ha hr hru hk g1 g4
        rcases Nat.eq_or_lt_of_le m1 with e | e
        · subst e; rw [hq] at m2; cases m2; omega
        · have := rg_lt ha e hq m2; have := rg_at ha hq; omega
/-- .. and has no run that reaches b's. -/
theorem IN.endA {a b d : List (Nat × Nat)} {i j s u : Nat} {r : Nat × Nat} (h : IN a b i j s u d) (ha : RgOK 65536 a) (hr : a[i]? = some r) (hru : r.2 < u) (hk : ∀ m q, i < m → a[m]? = some q → q.2 < u) (x : Nat) : inR d x ↔ inR a x ∧ inR b x := by
  rw [h.mem]
  refine ⟨fun ⟨g1, g2, _⟩ => ⟨g1, g2⟩, fun ⟨g1, g2⟩ => ⟨g1, g2, .inr ?_⟩⟩
  rcases Nat.lt_or_ge x u with g4 | g4
  · exact g4
  · exfalso
    obtain ⟨m, z, m1, m2, m3, m4⟩ := no_run (k := a.length) ha hr hru (fun m q e _ => hk m q e) g1 g4
    rw [List.getElem?_eq_none m1] at m2; cases m2
theorem IN.swap {a b d : List (Nat × Nat)} {i j s u : Nat} (h : IN a b i j s u d) : IN b a j i u s d :=
  ⟨h.ok, h.hb, h.ha, fun q hq => by have := h.gap q hq; omega, fun x => by rw [h.mem]; exact ⟨fun ⟨g1, g2, g3⟩ => ⟨g2, g1, g3.symm⟩, fun ⟨g1, g2, g3⟩ => ⟨g2, g1, g3.symm⟩⟩⟩
/-- The two runs meet: what they have in common. -/
theorem IN.over {a b d : List (Nat × Nat)} {i j s u : Nat} {r v : Nat × Nat} (h : IN a b i j s u d) (ha : RgOK 65536 a) (hr : a[i]? = some r) (hv : b[j]? = some v) (h1 : s ≤ v.2) (h2 : u ≤ r.2) :
    RgOK 65536 (d ++ [(max s u, min r.2 v.2)]) ∧ (∀ q ∈ d ++ [(max s u, min r.2 v.2)], q.2 ≤ min r.2 v.2) ∧ ∀ x, inR (d ++ [(max s u, min r.2 v.2)]) x ↔ inR d x ∨ (max s u ≤ x ∧ x ≤ min r.2 v.2) := by
  have g1 := h.ha r hr
  have g2 := h.hb v hv
  have g3 := rg_at ha hr
  refine ⟨rgok_snoc h.ok (by omega) (by omega) h.gap, fun q hq => ?_, fun x => by rw [inR_append, inR_one]⟩
  rcases List.mem_append.1 hq with hq | hq
  · have := h.gap q hq; omega
  · simp at hq; subst hq; exact Nat.le_refl _
/-- In both from the two places on, ahead of the run that follows one of them. -/
theorem in_both {a b : List (Nat × Nat)} {i j s u x : Nat} {r v : Nat × Nat} (ha : RgOK 65536 a) (hb : RgOK 65536 b) (hr : a[i]? = some r) (hv : b[j]? = some v) (g1 : r.1 ≤ s) (g2 : v.1 ≤ u) (hm : max s u ≤ x) : (max s u ≤ x ∧ x ≤ min r.2 v.2 → inR a x ∧ inR b x) ∧
    (inR a x → (∀ q, a[i + 1]? = some q → x < q.1) → x ≤ r.2) ∧ (inR b x → (∀ q, b[j + 1]? = some q → x < q.1) → x ≤ v.2) :=
  ⟨fun h => ⟨inR_at.2 ⟨i, r, hr, by omega, by omega⟩, inR_at.2 ⟨j, v, hv, by omega, by omega⟩⟩, fun h1 h2 => rg_here ha hr h1 h2, fun h1 h2 => rg_here hb hv h1 h2⟩
/-- b's run ends within a's. -/
theorem IN.leftA {a b d : List (Nat × Nat)} {i j s u : Nat} {r v q : Nat × Nat} (h : IN a b i j s u d) (ha : RgOK 65536 a) (hb : RgOK 65536 b) (hr : a[i]? = some r) (hv : b[j]? = some v) (h1 : s ≤ v.2) (h2 : u ≤ r.2) (h3 : v.2 < r.2) (hq : b[j + 1]? = some q) : IN a b i (j + 1) (v.2 + 1) q.1 (d ++ [(max s u, min r.2 v.2)]) := by
  have g1 := h.ha r hr
  have g2 := h.hb v hv
  have g4 := rg_lt hb (Nat.lt_succ_self j) hv hq
  obtain ⟨o1, o2, o3⟩ := h.over ha hr hv h1 h2
  refine ⟨o1, fun z hz => ?_, fun z hz => ?_, fun z hz => ?_, fun x => ?_⟩
  · rw [hr] at hz; cases hz; omega
  · rw [hq] at hz; cases hz; exact ⟨Nat.le_refl _, (rg_at hb hq).1⟩
  · have := o2 z hz; omega
  · rw [o3, h.mem]
    constructor
    · rintro (⟨f1, f2, f3⟩ | f)
      · exact ⟨f1, f2, by omega⟩
      · obtain ⟨e1, e2⟩ := (in_both ha hb hr hv g1.1 g2.1 f.1).1 f
        exact ⟨e1, e2, by omega⟩
    · rintro ⟨f1, f2, f3⟩
      by_cases hx : max s u ≤ x
      · have hxv := (in_both ha hb hr hv g1.1 g2.1 hx).2.2 f2 (fun z hz => by rw [hq] at hz; cases hz; omega)
        exact .inr ⟨hx, by omega⟩
      · exact .inl ⟨f1, f2, by omega⟩
/-- Both end. -/
theorem IN.leftN {a b d : List (Nat × Nat)} {i j s u : Nat} {r v p q : Nat × Nat} (h : IN a b i j s u d) (ha : RgOK 65536 a) (hb : RgOK 65536 b) (hr : a[i]? = some r) (hv : b[j]? = some v) (h1 : s ≤ v.2) (h2 : u ≤ r.2) (h3 : v.2 = r.2) (hp : a[i + 1]? = some p) (hq : b[j + 1]? = some q) : IN a b (i + 1) (j + 1) p.1 q.1 (d ++ [(max s u, min r.2 v.2)]) := by
  have g1 := h.ha r hr
  have g2 := h.hb v hv
  have g3 := rg_lt ha (Nat.lt_succ_self i) hr hp
  have g4 := rg_lt hb (Nat.lt_succ_self j) hv hq
  obtain ⟨o1, o2, o3⟩ := h.over ha hr hv h1 h2
  refine ⟨o1, fun z hz => ?_, fun z hz => ?_, fun z hz => ?_, fun x => ?_⟩
  · rw [hp] at hz; cases hz; exact ⟨Nat.le_refl _, (rg_at ha hp).1⟩
  · rw [hq] at hz; cases hz; exact ⟨Nat.le_refl _, (rg_at hb hq).1⟩
  · have := o2 z hz; omega
  · rw [o3, h.mem]
    constructor
    · rintro (⟨f1, f2, f3⟩ | f)
      · exact ⟨f1, f2, by omega⟩
      · obtain ⟨e1, e2⟩ := (in_both ha hb hr hv g1.1 g2.1 f.1).1 f
        exact ⟨e1, e2, by omega⟩
    · rintro ⟨f1, f2, f3⟩
      by_cases hx : max s u ≤ x
      · obtain ⟨_, c1, c2⟩ := in_both ha hb hr hv g1.1 g2.1 hx
        rcases f3 with f3 | f3
        · have := c1 f1 (fun z hz => by rw [hp] at hz; cases hz; exact f3)
          exact .inr ⟨hx, by omega⟩
        · have := c2 f2 (fun z hz => by rw [hq] at hz; cases hz; exact f3)
          exact .inr ⟨hx, by omega⟩
      · exact .inl ⟨f1, f2, by omega⟩
/-- The last run of b has been met. -/
theorem IN.fin {a b d : List (Nat × Nat)} {i j s u : Nat} {r v : Nat × Nat} (h : IN a b i j s u d) (ha : RgOK 65536 a) (hb : RgOK 65536 b) (hr : a[i]? = some r) (hv : b[j]? = some v) (h1 : s ≤ v.2) (h2 : u ≤ r.2) (h3 : v.2 ≤ r.2) (hq : b[j + 1]? = none) (x : Nat) : inR (d ++ [(max s u, min r.2 v.2)]) x ↔ inR a x ∧ inR b x := by
  have g1 := h.ha r hr
  have g2 := h.hb v hv
  obtain ⟨_, _, o3⟩ := h.over ha hr hv h1 h2
  rw [o3, h.mem]
  constructor
  · rintro (⟨f1, f2, _⟩ | f)
    · exact ⟨f1, f2⟩
    · exact (in_both ha hb hr hv g1.1 g2.1 f.1).1 f
  · rintro ⟨f1, f2⟩
    by_cases hx : max s u ≤ x
    · have hxv := (in_both ha hb hr hv g1.1 g2.1 hx).2.2 f2 (fun z hz => by rw [hq] at hz; cases hz)
      exact .inr ⟨hx, by omega⟩
    · exact .inl ⟨f1, f2, by omega⟩
end Go.Roar

namespace Go.Roar
open Go.RowKit Go.Proofs
/-- Where union stands: a's runs from i on, b's from j on, m is found; o is the run that still grows. -/
structure UN (a b : List (Nat × Nat)) (i j : Nat) (m : List (Nat × Nat)) : Prop where
  ok : RgOK 65536 m
  ga : ∀ q ∈ m, ∀ r, a[i]? = some r → q.2 + 1 < r.1
  gb : ∀ q ∈ m, ∀ r, b[j]? = some r → q.2 + 1 < r.1
  mem : ∀ x, inR m x ∨ inR (a.drop i) x ∨ inR (b.drop j) x ↔ inR a x ∨ inR b x
structure UG (a b : List (Nat × Nat)) (i j p t : Nat) (m : List (Nat × Nat)) : Prop where
  ok : RgOK 65536 m
  pt : p ≤ t ∧ t < 65536
  gm : ∀ q ∈ m, q.2 + 1 < p
  ga : ∀ r, a[i]? = some r → p ≤ r.1
  gb : ∀ r, b[j]? = some r → p ≤ r.1
  mem : ∀ x, inR m x ∨ (p ≤ x ∧ x ≤ t) ∨ inR (a.drop i) x ∨ inR (b.drop j) x ↔ inR a x ∨ inR b x
theorem UN.start (a b : List (Nat × Nat)) : UN a b 0 0 [] := ⟨RgOK.nil _, by simp, by simp, fun x => by simp [inR_nil]⟩
theorem UN.swap {a b m : List (Nat × Nat)} {i j : Nat} (h : UN a b i j m) : UN b a j i m :=
  ⟨h.ok, h.gb, h.ga, fun x => by rw [or_comm (a := inR b x), ← h.mem x]; exact or_congr Iff.rfl or_comm⟩
theorem UG.swap {a b m : List (Nat × Nat)} {i j p t : Nat} (h : UG a b i j p t m) : UG b a j i p t m :=
  ⟨h.ok, h.pt, h.gm, h.gb, h.ga, fun x => by rw [or_comm (a := inR b x), ← h.mem x]; exact or_congr Iff.rfl (or_congr Iff.rfl or_comm)⟩
theorem inR_drop {a : List (Nat × Nat)} {i x : Nat} {r : Nat × Nat} (h : a[i]? = some r) : inR (a.drop i) x ↔ (r.1 ≤ x ∧ x ≤ r.2) ∨ inR (a.drop (i + 1)) x := by rw [drop_one h, inR_cons]
/-- a's run comes alone. -/
theorem UN.one {a b m : List (Nat × Nat)} {i j : Nat} {r : Nat × Nat} (h : UN a b i j m) (ha : RgOK 65536 a) (hr : a[i]? = some r) (hv : ∀ v, b[j]? = some v → r.2 + 1 < v.1) : UN a b (i + 1) j (m ++ [r]) := by
  have hr1 := rg_at ha hr
  refine ⟨rgok_snoc h.ok hr1.1 hr1.2 (fun q hq => h.ga q hq r hr), fun q hq r' hr' => ?_, fun q hq v hv' => ?_, fun x => ?_⟩
  · have h1 := rg_lt ha (Nat.lt_succ_self i) hr hr'
    rcases List.mem_append.1 hq with hq | hq
    · have := h.ga q hq r hr; omega
    · simp at hq; subst hq; exact h1
  · rcases List.mem_append.1 hq with hq | hq
    · exact h.gb q hq v hv'
    · simp at hq; subst hq; exact hv v hv'
  · rw [← h.mem x, inR_append, inR_one, inR_drop hr, or_assoc, or_assoc]
/-- The runs up to the next place that reaches behind t are within the run that grows. -/
theorem run_skip {a : List (Nat × Nat)} {i k p t : Nat} (ha : RgOK 65536 a) (hk : Spot16 a i (t + 1) k) (hp : ∀ r, a[i]? = some r → p ≤ r.1) (x : Nat) : ((p ≤ x ∧ x ≤ t) ∨ inR (a.drop i) x) ↔ ((p ≤ x ∧ x ≤ t) ∨ inR (a.drop k) x) := by
  obtain ⟨k1, k2, k3, _⟩ := hk
  constructor
  · rintro (h | h)
    · exact .inl h
    · obtain ⟨m, r, hm, r1, r2⟩ := inR_at.1 h
      rw [List.getElem?_drop] at hm
      rcases Nat.lt_or_ge (i + m) k with h1 | h1
      · have h2 := k3 _ r (by omega) h1 hm
        left
        have hl := (List.getElem?_eq_some_iff.1 hm).1
        obtain ⟨q, hq⟩ : ∃ q, a[i]? = some q := ⟨_, List.getElem?_eq_getElem (by omega)⟩
        have h3 := hp q hq
        rcases Nat.eq_zero_or_pos m with rfl | h4
        · rw [Nat.add_zero, hq] at hm; cases hm; omega
        · have := rg_lt ha (show i < i + m by omega) hq hm; have := rg_at ha hq; omega
      · exact .inr (inR_at.2 ⟨i + m - k, r, by rw [List.getElem?_drop, show k + (i + m - k) = i + m by omega]; exact hm, r1, r2⟩)
  · rintro (h | h)
    · exact .inl h
    · obtain ⟨m, r, hm, r1, r2⟩ := inR_at.1 h
      rw [List.getElem?_drop] at hm
      exact .inr (inR_at.2 ⟨k + m - i, r, by rw [List.getElem?_drop, show i + (k + m - i) = k + m by omega]; exact hm, r1, r2⟩)
theorem spot_ge {a : List (Nat × Nat)} {i k t p : Nat} {q : Nat × Nat} (ha : RgOK 65536 a) (hi : ∀ r, a[i]? = some r → p ≤ r.1) (hk : Spot16 a i t k) (hq : a[k]? = some q) : p ≤ q.1 := by
  have hl := (List.getElem?_eq_some_iff.1 hq).1
  obtain ⟨r, hr⟩ : ∃ r, a[i]? = some r := ⟨_, List.getElem?_eq_getElem (by have := hk.1; omega)⟩
  have h1 := hi r hr
  rcases Nat.eq_or_lt_of_le hk.1 with e | e
  · subst e; rw [hr] at hq; cases hq; exact h1
  · have := rg_lt ha e hr hq; have := rg_at ha hr; omega
/-- A run of a joins the run that grows. -/
theorem UG.joinA {a b m : List (Nat × Nat)} {i j k p t : Nat} {r : Nat × Nat} (h : UG a b i j p t m) (ha : RgOK 65536 a) (hr : a[i]? = some r) (hm : r.1 ≤ t + 1) (hk : Spot16 a (i + 1) (max t r.2 + 1) k) : UG a b k j p (max t r.2) m := by
  have hr1 := rg_at ha hr
  have hp := h.ga r hr
  have hi : ∀ q, a[i + 1]? = some q → p ≤ q.1 := fun q hq => by have := rg_lt ha (Nat.lt_succ_self i) hr hq; omega
  have hpt := h.pt
  refine ⟨h.ok, by omega, h.gm, fun q hq => spot_ge ha hi hk hq, h.gb, fun x => ?_⟩
  have hs := run_skip ha hk hi x
  rw [← h.mem x, inR_drop hr]
  refine or_congr Iff.rfl ?_
  have e : (p ≤ x ∧ x ≤ max t r.2) ↔ (p ≤ x ∧ x ≤ t) ∨ (r.1 ≤ x ∧ x ≤ r.2) := by omega
  rw [← or_assoc, ← hs, e]
  simp only [or_assoc]
/-- Two runs that meet begin a run that grows. -/
theorem UN.grow {a b m : List (Nat × Nat)} {i j k l : Nat} {r v : Nat × Nat} (h : UN a b i j m) (ha : RgOK 65536 a) (hb : RgOK 65536 b) (hr : a[i]? = some r) (hv : b[j]? = some v) (h1 : v.1 ≤ r.2 + 1) (h2 : r.1 ≤ v.2 + 1) (hk : Spot16 a (i + 1) (max r.2 v.2 + 1) k) (hl : Spot16 b (j + 1) (max r.2 v.2 + 1) l) : UG a b k l (min r.1 v.1) (max r.2 v.2) m := by
  have hr1 := rg_at ha hr
  have hv1 := rg_at hb hv
  have hi : ∀ q, a[i + 1]? = some q → min r.1 v.1 ≤ q.1 := fun q hq => by have := rg_lt ha (Nat.lt_succ_self i) hr hq; omega
  have hj : ∀ q, b[j + 1]? = some q → min r.1 v.1 ≤ q.1 := fun q hq => by have := rg_lt hb (Nat.lt_succ_self j) hv hq; omega
  refine ⟨h.ok, by omega, fun q hq => ?_, fun q hq => spot_ge ha hi hk hq, fun q hq => spot_ge hb hj hl hq, fun x => ?_⟩
  · have := h.ga q hq r hr; have := h.gb q hq v hv; omega
  · have s1 := run_skip ha hk hi x
    have s2 := run_skip hb hl hj x
    rw [← h.mem x, inR_drop hr, inR_drop hv]
    refine or_congr Iff.rfl ?_
    have e : (min r.1 v.1 ≤ x ∧ x ≤ max r.2 v.2) ↔ (r.1 ≤ x ∧ x ≤ r.2) ∨ (v.1 ≤ x ∧ x ≤ v.2) := by omega
    constructor
    · rintro (g | g | g)
      · rcases e.1 g with g | g
        · exact .inl (.inl g)
        · exact .inr (.inl g)
      · rcases s1.2 (.inr g) with g | g
        · rcases e.1 g with g | g
          · exact .inl (.inl g)
          · exact .inr (.inl g)
        · exact .inl (.inr g)
      · rcases s2.2 (.inr g) with g | g
        · rcases e.1 g with g | g
          · exact .inl (.inl g)
          · exact .inr (.inl g)
        · exact .inr (.inr g)
    · rintro ((g | g) | (g | g))
      · exact .inl (e.2 (.inl g))
      · rcases s1.1 (.inr g) with g | g
        · exact .inl g
        · exact .inr (.inl g)
      · exact .inl (e.2 (.inr g))
      · rcases s2.1 (.inr g) with g | g
        · exact .inl g
        · exact .inr (.inr g)
/-- No run joins the run that grows: it is found. -/
theorem UG.push {a b m : List (Nat × Nat)} {i j p t : Nat} (h : UG a b i j p t m) (h1 : ∀ r, a[i]? = some r → t + 1 < r.1) (h2 : ∀ r, b[j]? = some r → t + 1 < r.1) : UN a b i j (m ++ [(p, t)]) := by
  refine ⟨rgok_snoc h.ok h.pt.1 h.pt.2 h.gm, fun q hq r hr => ?_, fun q hq r hr => ?_, fun x => ?_⟩
  · have h3 := h1 r hr
    have hpt := h.pt
    rcases List.mem_append.1 hq with hq | hq
    · have := h.gm q hq; omega
    · simp at hq; subst hq; exact h3
  · have h3 := h2 r hr
    have hpt := h.pt
    rcases List.mem_append.1 hq with hq | hq
    · have := h.gm q hq; omega
    · simp at hq; subst hq; exact h3
  · rw [← h.mem x, inR_append, inR_one, or_assoc]
/-- One of the lists is at its end. -/
theorem UN.fin {a b m : List (Nat × Nat)} {i j : Nat} (h : UN a b i j m) (ha : RgOK 65536 a) (hb : RgOK 65536 b) (he : a.drop i = [] ∨ b.drop j = []) : RgOK 65536 (m ++ a.drop i ++ b.drop j) ∧ ∀ x, inR (m ++ a.drop i ++ b.drop j) x ↔ inR a x ∨ inR b x := by
  refine ⟨?_, fun x => by rw [inR_append, inR_append, or_assoc, h.mem]⟩
  have key : ∀ (c : List (Nat × Nat)) (k : Nat), RgOK 65536 c → (∀ q ∈ m, ∀ r, c[k]? = some r → q.2 + 1 < r.1) → RgOK 65536 (m ++ c.drop k) := fun c k hc hg => by
    refine ⟨fun q hq => ?_, List.pairwise_append.2 ⟨h.ok.2, hc.2.sublist (List.drop_sublist _ _), fun q hq r hr => ?_⟩⟩
    · rcases List.mem_append.1 hq with hq | hq
      · exact h.ok.1 q hq
      · exact hc.1 q (List.mem_of_mem_drop hq)
    · obtain ⟨n, hn⟩ := List.getElem?_of_mem hr
      rw [List.getElem?_drop] at hn
      have hl := (List.getElem?_eq_some_iff.1 hn).1
      obtain ⟨z, hz⟩ : ∃ z, c[k]? = some z := ⟨_, List.getElem?_eq_getElem (by omega)⟩
      have h1 := hg q hq z hz
      rcases Nat.eq_zero_or_pos n with rfl | h2
      · rw [Nat.add_zero, hz] at hn; cases hn; exact h1
      · have := rg_lt hc (show k < k + n by omega) hz hn; have := rg_at hc hz; omega
  rcases he with he | he
  · rw [he, List.append_nil]; exact key b j hb h.gb
  · rw [he, List.append_nil]; exact key a i ha h.ga
end Go.Roar

namespace Go.Roar
open Go.RowKit Go.Proofs
/-- Where invert stands: a's run i is next, the numbers below s are told. -/
structure VN (a : List (Nat × Nat)) (i s : Nat) (m : List (Nat × Nat)) : Prop where
  ok : RgOK 65536 m
  gap : ∀ q ∈ m, q.2 + 1 < s
  low : ∀ r, a[i]? = some r → s < r.1 ∨ s = 0
  pre : ∀ k q, k < i → a[k]? = some q → q.2 < s
  mem : ∀ x, inR m x ↔ x < s ∧ ¬ inR a x
theorem VN.start (a : List (Nat × Nat)) : VN a 0 0 [] :=
  ⟨RgOK.nil _, by simp, fun _ _ => .inr rfl, fun k q h => by omega, fun x => ⟨fun h => absurd h (inR_nil x), fun h => by omega⟩⟩
/-- Between the last run told and the run i there is nothing. -/
theorem VN.free {a m : List (Nat × Nat)} {i s x : Nat} {r : Nat × Nat} (h : VN a i s m) (ha : RgOK 65536 a) (hr : a[i]? = some r) (h1 : s ≤ x) (h2 : x < r.1) : ¬ inR a x := fun hx => by
  obtain ⟨k, q, hk, q1, q2⟩ := inR_at.1 hx
  rcases Nat.lt_trichotomy k i with e | e | e
  · have := h.pre k q e hk; omega
  · subst e; rw [hr] at hk; cases hk; omega
  · have := rg_lt ha e hr hk; have := rg_at ha hr; omega
/-- The run i is passed: what is ahead of it comes, if there is something. -/
def vnD (m : List (Nat × Nat)) (s v : Nat) : List (Nat × Nat) := if 0 < v then m ++ [(s, v - 1)] else m
theorem VN.step {a m : List (Nat × Nat)} {i s : Nat} {r : Nat × Nat} (h : VN a i s m) (ha : RgOK 65536 a) (hr : a[i]? = some r) : VN a (i + 1) (r.2 + 1) (vnD m s r.1) ∧ (0 < r.1 → s ≤ r.1 - 1) := by
  have r1 := rg_at ha hr
  have hs := h.low r hr
  have hin : ∀ x, r.1 ≤ x → x ≤ r.2 → inR a x := fun x h1 h2 => inR_at.2 ⟨i, r, hr, h1, h2⟩
  refine ⟨⟨?_, fun q hq => ?_, fun r' hr' => ?_, fun k q hk hq => ?_, fun x => ?_⟩, fun h0 => by omega⟩
  · unfold vnD
    split
    · exact rgok_snoc h.ok (by omega) (by omega) h.gap
    · exact h.ok
  · unfold vnD at hq
    split at hq
    · rcases List.mem_append.1 hq with hq | hq
      · have := h.gap q hq; omega
      · simp at hq; subst hq; simp only; omega
    · have := h.gap q hq; omega
  · have := rg_lt ha (Nat.lt_succ_self i) hr hr'; omega
  · rcases Nat.eq_or_lt_of_le (Nat.lt_succ_iff.1 hk) with e | e
    · subst e; rw [hr] at hq; cases hq; omega
    · have := rg_lt ha e hq hr; omega
  · have hf := fun h1 h2 => h.free (x := x) ha hr h1 h2
    have key : inR (vnD m s r.1) x ↔ inR m x ∨ (s ≤ x ∧ x < r.1) := by
      unfold vnD
      split
      · rw [inR_append, inR_one]; exact or_congr Iff.rfl (by omega)
      · constructor
        · exact .inl
        · rintro (g | g)
          · exact g
          · omega
    rw [key, h.mem]
    constructor
    · rintro (⟨g1, g2⟩ | ⟨g1, g2⟩)
      · exact ⟨by omega, g2⟩
      · exact ⟨by omega, hf g1 g2⟩
    · rintro ⟨g1, g2⟩
      rcases Nat.lt_or_ge x s with g3 | g3
      · exact .inl ⟨g3, g2⟩
      · right
        refine ⟨g3, ?_⟩
        rcases Nat.lt_or_ge x r.1 with g4 | g4
        · exact g4
        · exact absurd (hin x g4 (by omega)) g2
/-- What invertlastInterval answers. -/
def lastV (s : Nat) (r : Nat × Nat) : List (Nat × Nat) := (if s < r.1 then [(s, r.1 - 1)] else []) ++ (if r.2 < 65535 then [(r.2 + 1, 65535)] else [])
theorem VN.last {a m : List (Nat × Nat)} {i s : Nat} {r : Nat × Nat} (h : VN a i s m) (ha : RgOK 65536 a) (hr : a[i]? = some r) (hno : a[i + 1]? = none) :
    RgOK 65536 (m ++ lastV s r) ∧ ∀ x, inR (m ++ lastV s r) x ↔ x < 65536 ∧ ¬ inR a x := by
  have r1 := rg_at ha hr
  have hs := h.low r hr
  have hin : ∀ x, r.1 ≤ x → x ≤ r.2 → inR a x := fun x h1 h2 => inR_at.2 ⟨i, r, hr, h1, h2⟩
  refine ⟨?_, fun x => ?_⟩
  · unfold lastV
    split <;> split
    · rw [← List.append_assoc]
      refine rgok_snoc (rgok_snoc h.ok (by omega) (by omega) h.gap) (by omega) (by omega) (fun q hq => ?_)
      rcases List.mem_append.1 hq with hq | hq
      · have := h.gap q hq; omega
      · simp at hq; subst hq; simp only; omega
    · rw [List.append_nil]
      exact rgok_snoc h.ok (by omega) (by omega) h.gap
    · rw [List.nil_append]
      exact rgok_snoc h.ok (by omega) (by omega) (fun q hq => by have := h.gap q hq; omega)
    · simpa using h.ok
  · have hf := fun h1 h2 => h.free (x := x) ha hr h1 h2
    have hb : r.2 < x → ¬ inR a x := fun h1 hx => by
      have := rg_here ha hr hx (fun r' hr' => by rw [hno] at hr'; cases hr')
      omega
    have key : inR (lastV s r) x ↔ (s ≤ x ∧ x < r.1) ∨ (r.2 < x ∧ x < 65536) := by
      unfold lastV
      rw [inR_append]
      split <;> split <;> simp only [inR_one, inR_nil, or_false, false_or, or_self, false_iff] <;> omega
    rw [inR_append, key, h.mem]
    constructor
    · rintro (⟨g1, g2⟩ | ⟨g1, g2⟩ | ⟨g1, g2⟩)
      · exact ⟨by omega, g2⟩
      · exact ⟨by omega, hf g1 g2⟩
      · exact ⟨g2, hb g1⟩
    · rintro ⟨g1, g2⟩
      rcases Nat.lt_or_ge x s with g3 | g3
      · exact .inl ⟨g3, g2⟩
      · right
        rcases Nat.lt_or_ge x r.1 with g4 | g4
        · exact .inl ⟨g3, g4⟩
        · right
          refine ⟨?_, g1⟩
          rcases Nat.lt_or_ge r.2 x with g5 | g5
          · exact g5
          · exact absurd (hin x g4 g5) g2
theorem lastV_le (s : Nat) (r : Nat × Nat) : (lastV s r).length ≤ 2 := by unfold lastV; split <;> split <;> simp
/-- Nothing at all turned round: everything. -/
theorem all_nil (x : Nat) : inR [(0, 65535)] x ↔ x < 65536 ∧ ¬ inR [] x := by
  rw [inR_one]
  exact ⟨fun h => ⟨by simp only at h; omega, inR_nil x⟩, fun h => ⟨Nat.zero_le _, by simp only; omega⟩⟩
end Go.Roar
