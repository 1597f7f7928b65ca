/-
  Plain laws: one number is added to runs: alone, on the left run, on the right run, between two that it joins.
  Plain laws: one number is added.
  Plain laws: one number added to an array of numbers and to runs: the cells.
  Plain laws: one bit is set in words: bitmapContainer.iadd.
-/
import Derived.Test.YtgohhikcmajmoaaGreatDoorJQpl
import Derived.Test.YtgohhikcmajmoaaGreatDoorKAc
import Derived.Test.YtgohhikcmajmoaaGreatDoorJAcb
namespace Go.Roar
/-- Two runs of a list, the first one ahead of the second one. -/
theorem runs_two {a : List (Nat × Nat)} {n i j : Nat} {r q : Nat × Nat} (ha : RgOK n a) (hij : i < j) (hi : a[i]? = some r) (hj : a[j]? = some q) : r.2 + 1 < q.1 := by
  obtain ⟨h1, rfl⟩ := List.getElem?_eq_some_iff.1 hi
  obtain ⟨h2, rfl⟩ := List.getElem?_eq_some_iff.1 hj
  exact List.pairwise_iff_getElem.1 ha.2 i j h1 h2 hij
theorem runs_one {a : List (Nat × Nat)} {n i : Nat} {r : Nat × Nat} (ha : RgOK n a) (hi : a[i]? = some r) : r.1 ≤ r.2 ∧ r.2 < n := ha.1 r (List.mem_of_getElem? hi)
/-- All runs ahead of place k end far ahead of n, when the last of them does. -/
theorem far_ahead {a : List (Nat × Nat)} {k n m : Nat} (ha : RgOK m a) (hk : k ≤ a.length) (hl : ∀ r, a[k - 1]? = some r → 0 < k → r.2 + 1 < n) : ∀ (i : Nat) (r : Nat × Nat), i < k → a[i]? = some r → r.2 + 1 < n := by
  intro i r hi hr
  rcases Nat.lt_or_ge i (k - 1) with h | h
  · have hq := List.getElem?_eq_getElem (show k - 1 < a.length by omega)
    have h1 := runs_two ha h hr hq
    have h2 := runs_one ha hq
    have h3 := hl _ hq (by omega)
    omega
  · obtain rfl : i = k - 1 := by omega
    exact hl r hr (by omega)
theorem far_behind {a : List (Nat × Nat)} {k n m : Nat} (ha : RgOK m a) (hl : ∀ r, a[k]? = some r → n + 1 < r.1) : ∀ (i : Nat) (r : Nat × Nat), k ≤ i → a[i]? = some r → n + 1 < r.1 := by
  intro i r hi hr
  rcases Nat.eq_or_lt_of_le hi with rfl | h
  · exact hl r hr
  · have hk : k < a.length := by have := (List.getElem?_eq_some_iff.1 hr).1; omega
    have hq := List.getElem?_eq_getElem hk
    have h1 := runs_two ha h hq hr
    have h2 := runs_one ha hq
    have h3 := hl _ hq
    omega
theorem add_alone {a : List (Nat × Nat)} {k n : Nat} (ha : RgOK 65536 a) (hk : k ≤ a.length) (hn : n < 65536) (h1 : ∀ r, a[k - 1]? = some r → 0 < k → r.2 + 1 < n) (h2 : ∀ r, a[k]? = some r → n + 1 < r.1) :
    RgOK 65536 (a.take k ++ (n, n) :: a.drop k) ∧ rgNums (a.take k ++ (n, n) :: a.drop k) = addS (rgNums a) n (n + 1) :=
  melt_ok ha (Nat.le_refl n) (Nat.le_refl k) hk (far_ahead ha hk h1) (far_behind ha h2) (Nat.le_refl n) (Nat.le_refl n) hn (fun i r hi hj => by omega) (fun x hx hy => .inr ⟨hx, hy⟩)
theorem add_left {a : List (Nat × Nat)} {k n s e : Nat} (ha : RgOK 65536 a) (hn : n < 65536) (h0 : a[k]? = some (s, e)) (he : e + 1 = n) (h2 : ∀ r, a[k + 1]? = some r → n + 1 < r.1) :
    RgOK 65536 (a.take k ++ (s, n) :: a.drop (k + 1)) ∧ rgNums (a.take k ++ (s, n) :: a.drop (k + 1)) = addS (rgNums a) n (n + 1) := by
  have hk := (List.getElem?_eq_some_iff.1 h0).1
  have hse := runs_one ha h0
  refine melt_ok ha (Nat.le_refl n) (Nat.le_succ k) hk (fun i r hi hr => runs_two ha hi hr h0) (far_behind ha h2) (by omega) (Nat.le_refl n) hn (fun i r hi hj hr => ?_) (fun x hx hy => ?_)
  · obtain rfl : i = k := by omega
    rw [h0] at hr; cases hr
    exact ⟨Nat.le_refl _, by simp; omega⟩
  · by_cases hxn : x = n
    · exact .inr ⟨by omega, by omega⟩
    · exact .inl ⟨k, (s, e), Nat.le_refl _, Nat.lt_succ_self _, h0, hx, by show x ≤ e; omega⟩
theorem add_right {a : List (Nat × Nat)} {k n s e : Nat} (ha : RgOK 65536 a) (h0 : a[k]? = some (s, e)) (hs : n + 1 = s) (h1 : ∀ r, a[k - 1]? = some r → 0 < k → r.2 + 1 < n) :
    RgOK 65536 (a.take k ++ (n, e) :: a.drop (k + 1)) ∧ rgNums (a.take k ++ (n, e) :: a.drop (k + 1)) = addS (rgNums a) n (n + 1) := by
  have hk := (List.getElem?_eq_some_iff.1 h0).1
  have hse := runs_one ha h0
  refine melt_ok ha (Nat.le_refl n) (Nat.le_succ k) hk (far_ahead ha (Nat.le_of_lt hk) h1) (fun i r hi hr => runs_two ha hi h0 hr) (Nat.le_refl n) (by simp at hse; omega) hse.2 (fun i r hi hj hr => ?_) (fun x hx hy => ?_)
  · obtain rfl : i = k := by omega
    rw [h0] at hr; cases hr
    exact ⟨by simp; omega, Nat.le_refl _⟩
  · by_cases hxn : x = n
    · exact .inr ⟨by omega, by omega⟩
    · exact .inl ⟨k, (s, e), Nat.le_refl _, Nat.lt_succ_self _, h0, by show s ≤ x; omega, hy⟩
theorem add_both {a : List (Nat × Nat)} {k n s e s' e' : Nat} (ha : RgOK 65536 a) (h0 : a[k]? = some (s, e)) (h1 : a[k + 1]? = some (s', e')) (he : e + 1 = n) (hs : n + 1 = s') :
    RgOK 65536 (a.take k ++ (s, e') :: a.drop (k + 2)) ∧ rgNums (a.take k ++ (s, e') :: a.drop (k + 2)) = addS (rgNums a) n (n + 1) := by
  have hk := (List.getElem?_eq_some_iff.1 h1).1
  have hse := runs_one ha h0
  have hse' := runs_one ha h1
  simp only at hse hse'
  refine melt_ok ha (Nat.le_refl n) (by omega) hk (fun i r hi hr => runs_two ha hi hr h0) (fun i r hi hr => runs_two ha hi h1 hr) (by omega) (by omega) hse'.2 (fun i r hi hj hr => ?_) (fun x hx hy => ?_)
  · rcases (show i = k ∨ i = k + 1 by omega) with rfl | rfl
    · rw [h0] at hr; cases hr
      exact ⟨Nat.le_refl _, by simp; omega⟩
    · rw [h1] at hr; cases hr
      exact ⟨by simp; omega, Nat.le_refl _⟩
  · by_cases hxn : x = n
    · exact .inr ⟨by omega, by omega⟩
    · by_cases hxe : x ≤ e
      · exact .inl ⟨k, (s, e), Nat.le_refl _, by omega, h0, hx, hxe⟩
      · exact .inl ⟨k + 1, (s', e'), by omega, by omega, h1, by show s' ≤ x; omega, hy⟩
end Go.Roar

namespace Go.Roar
open Go.Proofs
theorem addS_one_mem {l : List Nat} {x : Nat} (hs : Rising l) (hx : x ∈ l) : addS l x (x + 1) = l := by
  refine sorted_ext (addS_sorted hs (Nat.le_succ x)) hs (fun y => ?_)
  rw [addS_mem (Nat.le_succ x)]
  constructor
  · rintro (h | h)
    · exact h
    · obtain rfl : y = x := by omega
      exact hx
  · exact fun h => .inl h
theorem addS_one_new {l : List Nat} {x : Nat} (hs : Rising l) (hx : x ∉ l) : (addS l x (x + 1)).length = l.length + 1 := by
  rw [addS_length hs]
  have h1 := lb_le l x
  rw [(lb_succ hs x).2 (fun h => hx (List.mem_of_getElem? h))]
  omega
theorem addS_one_more {l : List Nat} {x : Nat} (hs : Rising l) : decide (l.length < (addS l x (x + 1)).length) = decide (x ∉ l) := by
  by_cases h : x ∈ l
  · rw [addS_one_mem hs h]; simp [h]
  · rw [addS_one_new hs h]; simp [h]
end Go.Roar

namespace Go.Roar
open Go.RowKit Go.Proofs
theorem mem_lb {l : List Nat} {x : Nat} (hs : Rising l) : x ∈ l ↔ l[lb l x]? = some x := by
  constructor
  · intro h
    obtain ⟨j, hj⟩ := List.getElem?_of_mem h
    rw [(bsOf_at hs hj).2]; exact hj
  · exact fun h => List.mem_of_getElem? h
theorem addS_one_ins {l : List Nat} {x : Nat} (hs : Rising l) (hx : l[lb l x]? ≠ some x) : addS l x (x + 1) = ins l (lb l x) x := by
  rw [← addR_addS hs]
  unfold Go.Proofs.addR ins
  rw [(lb_succ hs x).2 hx, show x + 1 - x = 1 by omega]
  simp
theorem lb_end {l : List Nat} {x : Nat} (hs : Rising l) (h : ∀ y, l[l.length - 1]? = some y → y < x) : lb l x = l.length := by
  refine lb_eq hs (Nat.le_refl _) (fun j y hj hy => ?_) (fun y hy => by rw [List.getElem?_eq_none (Nat.le_refl _)] at hy; cases hy)
  have hl : l[l.length - 1]? = some (l[l.length - 1]'(by omega)) := List.getElem?_eq_getElem (by omega)
  have h1 := h _ hl
  rcases Nat.lt_or_ge j (l.length - 1) with h2 | h2
  · have := rising_lt hs _ _ _ _ h2 hy hl; omega
  · obtain rfl : j = l.length - 1 := by omega
    rw [hl] at hy; cases hy; exact h1
theorem addS_one_end {l : List Nat} {x : Nat} (hs : Rising l) (h : ∀ y, l[l.length - 1]? = some y → y < x) : addS l x (x + 1) = l ++ [x] := by
  have e := lb_end hs h
  rw [addS_one_ins hs (by rw [e, List.getElem?_eq_none (Nat.le_refl _)]; simp), e]
  simp [ins]
theorem ivs_app (a b : List (Nat × Nat)) : ivs (a ++ b) = ivs a ++ ivs b := by simp [ivs]
theorem ivs_take2 (rs : List (Nat × Nat)) (k : Nat) : (ivs rs).take (k * 2) = ivs (rs.take k) := by
  induction rs generalizing k with
  | nil => simp [ivs]
  | cons x l ih =>
    cases k with
    | zero => simp [ivs]
    | succ k =>
      rw [ivs_cons, show (k + 1) * 2 = k * 2 + 1 + 1 by omega]
      simp only [List.take_succ_cons]
      rw [ih, ivs_cons]
theorem ivs_drop2 (rs : List (Nat × Nat)) (k : Nat) : (ivs rs).drop (k * 2) = ivs (rs.drop k) := by
  induction rs generalizing k with
  | nil => simp [ivs]
  | cons x l ih =>
    cases k with
    | zero => simp [ivs]
    | succ k =>
      rw [ivs_cons, show (k + 1) * 2 = k * 2 + 1 + 1 by omega]
      simp only [List.drop_succ_cons]
      rw [ih]
theorem ivs_set {rs : List (Nat × Nat)} {k : Nat} (hk : k < rs.length) (r : Nat × Nat) :
    ((ivs rs).set (k * 2) (.int .u16 (r.1 : Int))).set (k * 2 + 1) (.int .u16 ((r.2 - r.1 : Nat) : Int)) = ivs (rs.set k r) := by
  induction rs generalizing k with
  | nil => simp at hk
  | cons x l ih =>
    cases k with
    | zero => rw [ivs_cons, List.set_cons_zero, List.set_cons_zero, ivs_cons]; rfl
    | succ k =>
      have := ih (k := k) (by simpa using hk)
      rw [ivs_cons, show (k + 1) * 2 = k * 2 + 1 + 1 by omega]
      simp only [List.set_cons_succ]
      rw [ivs_cons, ← this]
theorem ivs_setB {rs : List (Nat × Nat)} {k s e : Nat} (h : rs[k]? = some (s, e)) (e' : Nat) : (ivs rs).set (k * 2 + 1) (.int .u16 ((e' - s : Nat) : Int)) = ivs (rs.set k (s, e')) := by
  rw [← ivs_set (r := (s, e')) (List.getElem?_eq_some_iff.1 h).1]
  obtain ⟨h1, h2⟩ := List.getElem?_eq_some_iff.1 (ivs_at h).1
  have h3 : (ivs rs)[k * 2] = .int .u16 (((s, e').1 : Nat) : Int) := h2
  rw [← h3, List.set_getElem_self]
theorem mid_set {rs : List (Nat × Nat)} {k : Nat} (r : Nat × Nat) (hk : k < rs.length) : rs.take k ++ r :: rs.drop (k + 1) = rs.set k r := by
  rw [List.set_eq_take_append_cons_drop, if_pos hk]
theorem RgOK.many {rs : List (Nat × Nat)} (h : RgOK 65536 rs) : rs.length ≤ 32768 := by
  have := rg_length (n := 65536) rs 0 h (by simp) (by omega)
  omega
end Go.Roar

namespace Go.Roar
open Go.Proofs
theorem filled_bit {ws : List Nat} {x : Nat} (hw : ∀ w ∈ ws, w < 18446744073709551616) (hl : x / 64 < ws.length) : Filled ws (orAt ws (x / 64) (2 ^ (x % 64))) x (x + 1) := by
  have hp : 2 ^ (x % 64) < 18446744073709551616 := by
    have : 2 ^ (x % 64) ≤ 2 ^ 63 := Nat.pow_le_pow_right (by omega) (by omega)
    have e : (2 : Nat) ^ 63 = 9223372036854775808 := by decide
    omega
  refine ⟨by simp, orAt_lt hw hp, fun y => ?_⟩
  rw [orAt_bit hl, Nat.testBit_two_pow]
  congr 1
  rw [Bool.eq_iff_iff]
  simp only [Bool.and_eq_true, decide_eq_true_eq]
  omega
/-- The bit told of the change. -/
theorem bit_change (w k : Nat) : (w ^^^ (w ||| 2 ^ k)) / 2 ^ k = if w.testBit k then 0 else 1 := by
  have h : w ^^^ (w ||| 2 ^ k) = if w.testBit k then 0 else 2 ^ k := by
    refine Nat.eq_of_testBit_eq fun i => ?_
    rw [Nat.testBit_xor, Nat.testBit_or, Nat.testBit_two_pow]
    by_cases hik : k = i
    · subst hik
      cases hb : w.testBit k
      · simp
      · simp
    · cases hb : w.testBit k
      · simp [hik]
      · simp [hik]
  rw [h]
  split
  · simp
  · exact Nat.div_self (Nat.two_pow_pos k)
/-- The card behind one bit. -/
theorem card_bit {ws : List Nat} {x : Nat} (hw : ∀ w ∈ ws, w < 18446744073709551616) (hl : ws.length = 1024) (hx : x < 65536) :
    restFrom (bitOf (orAt ws (x / 64) (2 ^ (x % 64)))) 0 = addS (restFrom (bitOf ws) 0) x (x + 1) ∧
    (addS (restFrom (bitOf ws) 0) x (x + 1)).length = (restFrom (bitOf ws) 0).length + (if (ws.getD (x / 64) 0).testBit (x % 64) then 0 else 1) := by
  refine ⟨filled_nums (filled_bit hw (by omega)) (Nat.le_succ x) (by omega), ?_⟩
  have hs : Rising (restFrom (bitOf ws) 0) := (List.pairwise_lt_range' (s := 0)).filter _
  have hm : x ∈ restFrom (bitOf ws) 0 ↔ bitOf ws x = true := by
    unfold restFrom
    rw [List.mem_filter, List.mem_range'_1]
    exact ⟨fun h => h.2, fun h => ⟨⟨Nat.zero_le _, by omega⟩, h⟩⟩
  have hb : bitOf ws x = (ws.getD (x / 64) 0).testBit (x % 64) := rfl
  by_cases h : (ws.getD (x / 64) 0).testBit (x % 64) = true
  · rw [addS_one_mem hs (hm.2 (hb.trans h)), if_pos h, Nat.add_zero]
  · rw [addS_one_new hs (fun hx => h (hb.symm.trans (hm.1 hx))), if_neg h]
end Go.Roar
