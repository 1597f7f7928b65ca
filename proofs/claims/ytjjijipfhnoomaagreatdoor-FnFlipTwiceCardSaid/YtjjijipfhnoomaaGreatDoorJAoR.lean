/-
  Plain laws: one number is added to runs: alone, on the left run, on the right run, between two that it joins.
  Plain laws: one number is added.
  Plain laws: one number added to an array of numbers and to runs: the cells.
  Plain laws: one number is taken out: of a list, of runs, of the set.
-/
import Derived.Test.YtjjijipfhnoomaaGreatDoorJQpl
import Derived.Test.YtjjijipfhnoomaaGreatDoorKAc
import Derived.Test.YtjjijipfhnoomaaGreatDoorJAcb
namespace Go.Roar
/-- Two runs of a list, the first one ahead of the second one. -/
theorem runs_two {a : List (Nat × Nat)} {n i j : Nat} {r q : Nat × Nat} (ha : RgOK n a) (hij : i < j) (hi : a[i]? = some r) (hj : a[j]? = some q) : r.2 + 1 < q.1 := by
  obtain ⟨h1, rfl⟩ := List.getElem?_eq_some_iff.1 hi
  obtain ⟨h2, rfl⟩ := List.getElem?_eq_some_iff.1 hj
  exact List.pairwise_iff_getElem.1 ha.2 i j h1 h2 hij
theorem runs_one {a : List (Nat × Nat)} {n i : Nat} {r : Nat × Nat} (ha : RgOK n a) (hi : a[i]? = some r) : r.1 ≤ r.2 ∧ r.2 < n := ha.1 r (List.mem_of_getElem? hi)
/-- All runs ahead of place k end far ahead of n, when the last of them does. -/
theorem far_ahead {a : List (Nat × Nat)} {k n m : Nat} (ha : RgOK m a) (hk : k ≤ a.length) (hl : ∀ r, a[k - 1]? = some r → 0 < k → r.2 + 1 < n) : ∀ (i : Nat) (r : Nat × Nat), i < k → a[i]? = some r → r.2 + 1 < n := by
  intro i r hi hr
  rcases Nat.lt_or_ge i (k - 1) with h | h
  · have hq := List.getElem?_eq_getElem (show k - 1 < a.length by omega)
    have h1 := runs_two ha h hr hq
    have h2 := runs_one ha hq
    have h3 := hl _ hq (by omega)
    omega
  · obtain rfl : i = k - 1 := by omega
    exact hl r hr (by omega)
theorem far_behind {a : List (Nat × Nat)} {k n m : Nat} (ha : RgOK m a) (hl : ∀ r, a[k]? = some r → n + 1 < r.1) : ∀ (i : Nat) (r : Nat × Nat), k ≤ i → a[i]? = some r → n + 1 < r.1 := by
  intro i r hi hr
  rcases Nat.eq_or_lt_of_le hi with rfl | h
  · exact hl r hr
  · have hk : k < a.length := by have := (List.getElem?_eq_some_iff.1 hr).1; omega
    have hq := List.getElem?_eq_getElem hk
    have h1 := runs_two ha h hq hr
    have h2 := runs_one ha hq
    have h3 := hl _ hq
    omega
theorem add_alone {a : List (Nat × Nat)} {k n : Nat} (ha : RgOK 65536 a) (hk : k ≤ a.length) (hn : n < 65536) (h1 : ∀ r, a[k - 1]? = some r → 0 < k → r.2 + 1 < n) (h2 : ∀ r, a[k]? = some r → n + 1 < r.1) :
    RgOK 65536 (a.take k ++ (n, n) :: a.drop k) ∧ rgNums (a.take k ++ (n, n) :: a.drop k) = addS (rgNums a) n (n + 1) :=
  melt_ok ha (Nat.le_refl n) (Nat.le_refl k) hk (far_ahead ha hk h1) (far_behind ha h2) (Nat.le_refl n) (Nat.le_refl n) hn (fun i r hi hj => by omega) (fun x hx hy => .inr ⟨hx, hy⟩)
theorem add_left {a : List (Nat × Nat)} {k n s e : Nat} (ha : RgOK 65536 a) (hn : n < 65536) (h0 : a[k]? = some (s, e)) (he : e + 1 = n) (h2 : ∀ r, a[k + 1]? = some r → n + 1 < r.1) :
    RgOK 65536 (a.take k ++ (s, n) :: a.drop (k + 1)) ∧ rgNums (a.take k ++ (s, n) :: a.drop (k + 1)) = addS (rgNums a) n (n + 1) := by
  have hk := (List.getElem?_eq_some_iff.1 h0).1
  have hse := runs_one ha h0
  refine melt_ok ha (Nat.le_refl n) (Nat.le_succ k) hk (fun i r hi hr => runs_two ha hi hr h0) (far_behind ha h2) (by omega) (Nat.le_refl n) hn (fun i r hi hj hr => ?_) (fun x hx hy => ?_)
  · obtain rfl : i = k := by omega
    rw [h0] at hr; cases hr
    exact ⟨Nat.le_refl _, by simp; omega⟩
  · by_cases hxn : x = n
    · exact .inr ⟨by omega, by omega⟩
    · exact .inl ⟨k, (s, e), Nat.le_refl _, Nat.lt_succ_self _, h0, hx, by show x ≤ e; omega⟩
theorem add_right {a : List (Nat × Nat)} {k n s e : Nat} (ha : RgOK 65536 a) (h0 : a[k]? = some (s, e)) (hs : n + 1 = s) (h1 : ∀ r, a[k - 1]? = some r → 0 < k → r.2 + 1 < n) :
    RgOK 65536 (a.take k ++ (n, e) :: a.drop (k + 1)) ∧ rgNums (a.take k ++ (n, e) :: a.drop (k + 1)) = addS (rgNums a) n (n + 1) := by
  have hk := (List.getElem?_eq_some_iff.1 h0).1
  have hse := runs_one ha h0
  refine melt_ok ha (Nat.le_refl n) (Nat.le_succ k) hk (far_ahead ha (Nat.le_of_lt hk) h1) (fun i r hi hr => runs_two ha hi h0 hr) (Nat.le_refl n) (by simp at hse; omega) hse.2 (fun i r hi hj hr => ?_) (fun x hx hy => ?_)
  · obtain rfl : i = k := by omega
    rw [h0] at hr; cases hr
    exact ⟨by simp; omega, Nat.le_refl _⟩
  · by_cases hxn : x = n
    · exact .inr ⟨by omega, by omega⟩
    · exact .inl ⟨k, (s, e), Nat.le_refl _, Nat.lt_succ_self _, h0, by show s ≤ x; omega, hy⟩
theorem add_both {a : List (Nat × Nat)} {k n s e s' e' : Nat} (ha : RgOK 65536 a) (h0 : a[k]? = some (s, e)) (h1 : a[k + 1]? = some (s', e')) (he : e + 1 = n) (hs : n + 1 = s') :
    RgOK 65536 (a.take k ++ (s, e') :: a.drop (k + 2)) ∧ rgNums (a.take k ++ (s, e') :: a.drop (k + 2)) = addS (rgNums a) n (n + 1) := by
  have hk := (List.getElem?_eq_some_iff.1 h1).1
  have hse := runs_one ha h0
  have hse' := runs_one ha h1
  simp only at hse hse'
  refine melt_ok ha (Nat.le_refl n) (by omega) hk (fun i r hi hr => runs_two ha hi hr h0) (fun i r hi hr => runs_two ha hi h1 hr) (by omega) (by omega) hse'.2 (fun i r hi hj hr => ?_) (fun x hx hy => ?_)
  · rcases (show i = k ∨ i = k + 1 by omega) with rfl | rfl
    · rw [h0] at hr; cases hr
      exact ⟨Nat.le_refl _, by simp; omega⟩
    · rw [h1] at hr; cases hr
      exact ⟨by simp; omega, Nat.le_refl _⟩
  · by_cases hxn : x = n
    · exact .inr ⟨by omega, by omega⟩
    · by_cases hxe : x ≤ e
      · exact .inl ⟨k, (s, e), Nat.le_refl _, by omega, h0, hx, hxe⟩
      · exact .inl ⟨k + 1, (s', e'), by omega, by omega, h1, by show s' ≤ x; omega, hy⟩
end Go.Roar

namespace Go.Roar
open Go.Proofs
theorem addS_one_mem {l : List Nat} {x : Nat} (hs : Rising l) (hx : x ∈ l) : addS l x (x + 1) = l := by
  refine sorted_ext (addS_sorted hs (Nat.le_succ x)) hs (fun y => ?_)
  rw [addS_mem (Nat.le_succ x)]
  constructor
  · rintro (h | h)
    · exact h
    · obtain rfl : y = x := by omega
      exact hx
  · exact fun h => .inl h
theorem addS_one_new {l : List Nat} {x : Nat} (hs : Rising l) (hx : x ∉ l) : (addS l x (x + 1)).length = l.length + 1 := by
  rw [addS_length hs]
  have h1 := lb_le l x
  rw [(lb_succ hs x).2 (fun h => hx (List.mem_of_getElem? h))]
  omega
theorem addS_one_more {l : List Nat} {x : Nat} (hs : Rising l) : decide (l.length < (addS l x (x + 1)).length) = decide (x ∉ l) := by
  by_cases h : x ∈ l
  · rw [addS_one_mem hs h]; simp [h]
  · rw [addS_one_new hs h]; simp [h]
end Go.Roar

namespace Go.Roar
open Go.RowKit Go.Proofs
theorem mem_lb {l : List Nat} {x : Nat} (hs : Rising l) : x ∈ l ↔ l[lb l x]? = some x := by
  constructor
  · intro h
    obtain ⟨j, hj⟩ := List.getElem?_of_mem h
    rw [(bsOf_at hs hj).2]; exact hj
  · exact fun h => List.mem_of_getElem? h
theorem addS_one_ins {l : List Nat} {x : Nat} (hs : Rising l) (hx : l[lb l x]? ≠ some x) : addS l x (x + 1) = ins l (lb l x) x := by
  rw [← addR_addS hs]
  unfold Go.Proofs.addR ins
  rw [(lb_succ hs x).2 hx, show x + 1 - x = 1 by omega]
  simp
theorem lb_end {l : List Nat} {x : Nat} (hs : Rising l) (h : ∀ y, l[l.length - 1]? = some y → y < x) : lb l x = l.length := by
  refine lb_eq hs (Nat.le_refl _) (fun j y hj hy => ?_) (fun y hy => by rw [List.getElem?_eq_none (Nat.le_refl _)] at hy; cases hy)
  have hl : l[l.length - 1]? = some (l[l.length - 1]'(by omega)) := List.getElem?_eq_getElem (by omega)
  have h1 := h _ hl
  rcases Nat.lt_or_ge j (l.length - 1) with h2 | h2
  · have := rising_lt hs _ _ _ _ h2 hy hl; omega
  · obtain rfl : j = l.length - 1 := by omega
    rw [hl] at hy; cases hy; exact h1
theorem addS_one_end {l : List Nat} {x : Nat} (hs : Rising l) (h : ∀ y, l[l.length - 1]? = some y → y < x) : addS l x (x + 1) = l ++ [x] := by
  have e := lb_end hs h
  rw [addS_one_ins hs (by rw [e, List.getElem?_eq_none (Nat.le_refl _)]; simp), e]
  simp [ins]
theorem ivs_app (a b : List (Nat × Nat)) : ivs (a ++ b) = ivs a ++ ivs b := by simp [ivs]
theorem ivs_take2 (rs : List (Nat × Nat)) (k : Nat) : (ivs rs).take (k * 2) = ivs (rs.take k) := by
  induction rs generalizing k with
  | nil => simp [ivs]
  | cons x l ih =>
    cases k with
    | zero => simp [ivs]
    | succ k =>
      rw [ivs_cons, show (k + 1) * 2 = k * 2 + 1 + 1 by omega]
      simp only [List.take_succ_cons]
      rw [ih, ivs_cons]
theorem ivs_drop2 (rs : List (Nat × Nat)) (k : Nat) : (ivs rs).drop (k * 2) = ivs (rs.drop k) := by
  induction rs generalizing k with
  | nil => simp [ivs]
  | cons x l ih =>
    cases k with
    | zero => simp [ivs]
    | succ k =>
      rw [ivs_cons, show (k + 1) * 2 = k * 2 + 1 + 1 by omega]
      simp only [List.drop_succ_cons]
      rw [ih]
theorem ivs_set {rs : List (Nat × Nat)} {k : Nat} (hk : k < rs.length) (r : Nat × Nat) :
    ((ivs rs).set (k * 2) (.int .u16 (r.1 : Int))).set (k * 2 + 1) (.int .u16 ((r.2 - r.1 : Nat) : Int)) = ivs (rs.set k r) := by
  induction rs generalizing k with
  | nil => simp at hk
  | cons x l ih =>
    cases k with
    | zero => rw [ivs_cons, List.set_cons_zero, List.set_cons_zero, ivs_cons]; rfl
    | succ k =>
      have := ih (k := k) (by simpa using hk)
      rw [ivs_cons, show (k + 1) * 2 = k * 2 + 1 + 1 by omega]
      simp only [List.set_cons_succ]
      rw [ivs_cons, ← this]
theorem ivs_setB {rs : List (Nat × Nat)} {k s e : Nat} (h : rs[k]? = some (s, e)) (e' : Nat) : (ivs rs).set (k * 2 + 1) (.int .u16 ((e' - s : Nat) : Int)) = ivs (rs.set k (s, e')) := by
  rw [← ivs_set (r := (s, e')) (List.getElem?_eq_some_iff.1 h).1]
  obtain ⟨h1, h2⟩ := List.getElem?_eq_some_iff.1 (ivs_at h).1
  have h3 : (ivs rs)[k * 2] = .int .u16 (((s, e').1 : Nat) : Int) := h2
  rw [← h3, List.set_getElem_self]
theorem mid_set {rs : List (Nat × Nat)} {k : Nat} (r : Nat × Nat) (hk : k < rs.length) : rs.take k ++ r :: rs.drop (k + 1) = rs.set k r := by
  rw [List.set_eq_take_append_cons_drop, if_pos hk]
theorem RgOK.many {rs : List (Nat × Nat)} (h : RgOK 65536 rs) : rs.length ≤ 32768 := by
  have := rg_length (n := 65536) rs 0 h (by simp) (by omega)
  omega
end Go.Roar

namespace Go.Roar
open Go.RowKit Go.Proofs
/-- A list without a number. -/
def wo (l : List Nat) (x : Nat) : List Nat := l.filter fun y => decide (y ≠ x)
theorem wo_mem {l : List Nat} {x y : Nat} : y ∈ wo l x ↔ y ∈ l ∧ y ≠ x := by simp [wo]
theorem wo_rising {l : List Nat} (h : Rising l) (x : Nat) : Rising (wo l x) := h.filter _
theorem wo_lt {l : List Nat} {n : Nat} (h : ∀ y ∈ l, y < n) (x : Nat) : ∀ y ∈ wo l x, y < n := fun y hy => h y (wo_mem.1 hy).1
theorem wo_none {l : List Nat} {x : Nat} (h : x ∉ l) : wo l x = l := by
  unfold wo
  rw [List.filter_eq_self]
  intro y hy
  simp
  rintro rfl
  exact h hy
theorem wo_at {l : List Nat} {x i : Nat} (hs : Rising l) (h : l[i]? = some x) : wo l x = l.take i ++ l.drop (i + 1) := by
  obtain ⟨hi, he⟩ := List.getElem?_eq_some_iff.1 h
  refine sorted_ext (wo_rising hs x) ?_ (fun y => ?_)
  · have e : l = l.take i ++ l.drop i := (List.take_append_drop i l).symm
    exact List.Pairwise.sublist (by
      have : (l.take i ++ l.drop (i + 1)).Sublist (l.take i ++ l.drop i) := List.Sublist.append_left (List.drop_sublist_drop_left l (Nat.le_succ i)) _
      rwa [← e] at this) hs
  · rw [wo_mem, List.mem_append]
    constructor
    · rintro ⟨h1, h2⟩
      obtain ⟨j, hj⟩ := List.getElem?_of_mem h1
      rcases Nat.lt_trichotomy j i with h3 | h3 | h3
      · exact .inl (List.mem_of_getElem? (i := j) (by rw [List.getElem?_take_of_lt h3]; exact hj))
      · subst h3; rw [h] at hj; cases hj; exact absurd rfl h2
      · exact .inr (List.mem_of_getElem? (i := j - (i + 1)) (by rw [List.getElem?_drop, show i + 1 + (j - (i + 1)) = j by omega]; exact hj))
    · rintro (h1 | h1)
      · obtain ⟨j, hj⟩ := List.getElem?_of_mem h1
        have hji : j < i := by have := (List.getElem?_eq_some_iff.1 hj).1; simp at this; omega
        rw [List.getElem?_take_of_lt hji] at hj
        exact ⟨List.mem_of_getElem? hj, by have := rising_lt hs _ _ _ _ hji hj h; omega⟩
      · obtain ⟨j, hj⟩ := List.getElem?_of_mem h1
        rw [List.getElem?_drop] at hj
        exact ⟨List.mem_of_getElem? hj, by have := rising_lt hs _ _ _ _ (show i < i + 1 + j by omega) h hj; omega⟩
theorem wo_length {l : List Nat} {x : Nat} (hs : Rising l) (h : x ∈ l) : (wo l x).length + 1 = l.length := by
  obtain ⟨i, hi⟩ := List.getElem?_of_mem h
  have := (List.getElem?_eq_some_iff.1 hi).1
  rw [wo_at hs hi]
  simp
  omega
theorem wo_less {l : List Nat} {x : Nat} (hs : Rising l) : decide ((wo l x).length < l.length) = decide (x ∈ l) := by
  by_cases h : x ∈ l
  · have := wo_length hs h; simp [h]; omega
  · rw [wo_none h]; simp [h]
/-- Runs without a number: the pieces of one run stand for it. -/
theorem runs_wo {a m : List (Nat × Nat)} {k x : Nat} {r : Nat × Nat} (ha : RgOK 65536 a) (hk : a[k]? = some r) (hx : r.1 ≤ x ∧ x ≤ r.2) (hm : RgOK 65536 m) (hin : ∀ q ∈ m, r.1 ≤ q.1 ∧ q.2 ≤ r.2) (hmx : ∀ y, inR m y ↔ (r.1 ≤ y ∧ y ≤ r.2) ∧ y ≠ x) :
    RgOK 65536 (a.take k ++ (m ++ a.drop (k + 1))) ∧ rgNums (a.take k ++ (m ++ a.drop (k + 1))) = wo (rgNums a) x := by
  obtain ⟨hkl, hke⟩ := List.getElem?_eq_some_iff.1 hk
  have hbef : ∀ q ∈ a.take k, q.2 + 1 < r.1 := fun q hq => by
    obtain ⟨i, hi⟩ := List.getElem?_of_mem hq
    have hik : i < k := by have := (List.getElem?_eq_some_iff.1 hi).1; simp at this; omega
    rw [List.getElem?_take_of_lt hik] at hi
    exact runs_two ha hik hi hk
  have haft : ∀ q ∈ a.drop (k + 1), r.2 + 1 < q.1 := fun q hq => by
    obtain ⟨i, hi⟩ := List.getElem?_of_mem hq
    rw [List.getElem?_drop] at hi
    exact runs_two ha (by omega) hk hi
  have hrr := ha.1 r (List.mem_of_getElem? hk)
  have hok : RgOK 65536 (a.take k ++ (m ++ a.drop (k + 1))) := by
    refine ⟨fun q hq => ?_, ?_⟩
    · rcases List.mem_append.1 hq with hq | hq
      · exact ha.1 q (List.mem_of_mem_take hq)
      · rcases List.mem_append.1 hq with hq | hq
        · exact hm.1 q hq
        · exact ha.1 q (List.mem_of_mem_drop hq)
    · rw [List.pairwise_append, List.pairwise_append]
      refine ⟨ha.2.sublist (List.take_sublist _ _), ⟨hm.2, ha.2.sublist (List.drop_sublist _ _), fun p hp q hq => ?_⟩, fun p hp q hq => ?_⟩
      · have := hin p hp; have := haft q hq; omega
      · have h1 := hbef p hp
        rcases List.mem_append.1 hq with hq | hq
        · have := hin q hq; omega
        · have := haft q hq; omega
  refine ⟨hok, sorted_ext (rgNums_rising hok) (wo_rising (rgNums_rising ha) x) (fun y => ?_)⟩
  have e : a = a.take k ++ (r :: a.drop (k + 1)) := by
    rw [← hke, ← List.drop_eq_getElem_cons hkl, List.take_append_drop]
  have ea : inR a y ↔ inR (a.take k) y ∨ (r.1 ≤ y ∧ y ≤ r.2) ∨ inR (a.drop (k + 1)) y := by
    have h0 := inR_append (a.take k) (r :: a.drop (k + 1)) y
    rw [← e, inR_cons] at h0
    exact h0
  have hb : inR (a.take k) y → y ≠ x := by
    rintro ⟨q, hq, h1, h2⟩ rfl
    have := hbef q hq
    omega
  have hf : inR (a.drop (k + 1)) y → y ≠ x := by
    rintro ⟨q, hq, h1, h2⟩ rfl
    have := haft q hq
    omega
  rw [wo_mem, rgNums_mem (fun q hq => (hok.1 q hq).1), rgNums_mem (fun q hq => (ha.1 q hq).1)]
  show inR _ y ↔ inR a y ∧ y ≠ x
  rw [ea, inR_append, inR_append, hmx]
  constructor
  · rintro (h | ⟨h1, h2⟩ | h)
    · exact ⟨.inl h, hb h⟩
    · exact ⟨.inr (.inl h1), h2⟩
    · exact ⟨.inr (.inr h), hf h⟩
  · rintro ⟨h | h | h, hne⟩
    · exact .inl h
    · exact .inr (.inl ⟨h, hne⟩)
    · exact .inr (.inr h)
theorem wo_run {a : List (Nat × Nat)} {k x : Nat} {r : Nat × Nat} (ha : RgOK 65536 a) (hk : a[k]? = some r) (hx : r.1 ≤ x ∧ x ≤ r.2) (h1 : r.1 = r.2) : RgOK 65536 (a.take k ++ a.drop (k + 1)) ∧ rgNums (a.take k ++ a.drop (k + 1)) = wo (rgNums a) x :=
  runs_wo (m := []) ha hk hx (RgOK.nil _) (by simp) (fun y => ⟨fun h => absurd h (inR_nil y), fun ⟨h, h2⟩ => absurd (show y = x by omega) h2⟩)
theorem wo_first {a : List (Nat × Nat)} {k s e : Nat} (ha : RgOK 65536 a) (hk : a[k]? = some (s, e)) (h1 : s < e) : RgOK 65536 (a.take k ++ (s + 1, e) :: a.drop (k + 1)) ∧ rgNums (a.take k ++ (s + 1, e) :: a.drop (k + 1)) = wo (rgNums a) s := by
  have hr := runs_one ha hk
  simp only at hr
  refine runs_wo (m := [(s + 1, e)]) ha hk ⟨Nat.le_refl _, hr.1⟩ ⟨by intro q hq; simp at hq; subst hq; exact ⟨h1, hr.2⟩, by simp⟩ (by intro q hq; simp at hq; subst hq; exact ⟨Nat.le_succ _, Nat.le_refl _⟩) (fun y => ?_)
  rw [inR_one]
  constructor
  · rintro ⟨h2, h3⟩; simp only at h2 h3; exact ⟨⟨by simp only; omega, h3⟩, by omega⟩
  · rintro ⟨⟨h2, h3⟩, h4⟩; simp only at h2 h3; exact ⟨by simp only; omega, h3⟩
theorem wo_last {a : List (Nat × Nat)} {k s e : Nat} (ha : RgOK 65536 a) (hk : a[k]? = some (s, e)) (h1 : s < e) : RgOK 65536 (a.take k ++ (s, e - 1) :: a.drop (k + 1)) ∧ rgNums (a.take k ++ (s, e - 1) :: a.drop (k + 1)) = wo (rgNums a) e := by
  have hr := runs_one ha hk
  simp only at hr
  refine runs_wo (m := [(s, e - 1)]) ha hk ⟨hr.1, Nat.le_refl _⟩ ⟨by intro q hq; simp at hq; subst hq; exact ⟨by simp only; omega, by simp only; omega⟩, by simp⟩ (by intro q hq; simp at hq; subst hq; exact ⟨Nat.le_refl _, by simp only; omega⟩) (fun y => ?_)
  rw [inR_one]
  constructor
  · rintro ⟨h2, h3⟩; simp only at h2 h3; exact ⟨⟨h2, by simp only; omega⟩, by omega⟩
  · rintro ⟨⟨h2, h3⟩, h4⟩; simp only at h2 h3; exact ⟨h2, by simp only; omega⟩
theorem wo_mid {a : List (Nat × Nat)} {k s e x : Nat} (ha : RgOK 65536 a) (hk : a[k]? = some (s, e)) (h1 : s < x) (h2 : x < e) : RgOK 65536 (a.take k ++ (s, x - 1) :: (x + 1, e) :: a.drop (k + 1)) ∧ rgNums (a.take k ++ (s, x - 1) :: (x + 1, e) :: a.drop (k + 1)) = wo (rgNums a) x := by
  have hr := runs_one ha hk
  simp only at hr
  refine runs_wo (m := [(s, x - 1), (x + 1, e)]) ha hk ⟨by simp only; omega, by simp only; omega⟩ ⟨by intro q hq; simp at hq; rcases hq with rfl | rfl <;> exact ⟨by simp only; omega, by simp only; omega⟩, by simp; omega⟩ (by intro q hq; simp at hq; rcases hq with rfl | rfl <;> exact ⟨by simp only; omega, by simp only; omega⟩) (fun y => ?_)
  rw [inR_cons, inR_one]
  simp only
  omega
end Go.Roar
