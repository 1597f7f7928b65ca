/-
  Plain laws: words of which some bits are turned round, or cleared.
  resetBitmapRange, flipBitmapRange, how many numbers they bring; popcntSlice: a range of bits is cleared, turned round.
-/
import Derived.Test.YtjjijipfhnoomaaGreatDoorJQpl
import Derived.Test.YtjjijipfhnoomaaGreatDoorJPtg
import Derived.Test.YtjjijipfhnoomaaGreatDoorJPop
import Derived.Test.YtjjijipfhnoomaaGreatDoorJBn
namespace Go.Roar
theorem bit_set {v : List Nat} {i z : Nat} (hi : i < v.length) (x : Nat) : bitOf (v.set i z) x = if x / 64 = i then z.testBit (x % 64) else bitOf v x := by
  unfold bitOf
  by_cases hx : x / 64 = i
  · rw [if_pos hx, hx, List.getD_eq_getElem?_getD, List.getElem?_set_self hi]; rfl
  · rw [if_neg hx, List.getD_eq_getElem?_getD, List.getElem?_set_ne (by omega), List.getD_eq_getElem?_getD]
theorem bit_at {v : List Nat} {i y x : Nat} (hy : v[i]? = some y) (hx : x / 64 = i) : bitOf v x = y.testBit (x % 64) := by
  unfold bitOf
  rw [hx, List.getD_eq_getElem?_getD, hy]; rfl
/-- Words whose bits are turned round where P tells. -/
def Xored (ws ws' : List Nat) (P : Nat → Bool) : Prop := ws'.length = ws.length ∧ (∀ w ∈ ws', w < 18446744073709551616) ∧ ∀ x, bitOf ws' x = (bitOf ws x ^^ P x)
theorem Xored.refl {ws : List Nat} (h : ∀ w ∈ ws, w < 18446744073709551616) : Xored ws ws (fun _ => false) := ⟨rfl, h, fun x => by simp⟩
theorem Xored.word {ws v : List Nat} {P Q : Nat → Bool} {i y m : Nat} (h : Xored ws v P) (hy : v[i]? = some y) (hm : m < 18446744073709551616) (hQ : ∀ x, Q x = (P x ^^ (decide (x / 64 = i) && m.testBit (x % 64)))) : Xored ws (v.set i (y ^^^ m)) Q := by
  obtain ⟨hi, _⟩ := List.getElem?_eq_some_iff.1 hy
  refine ⟨by rw [List.length_set]; exact h.1, fun w hw => ?_, fun x => ?_⟩
  · rcases List.mem_or_eq_of_mem_set hw with hw | rfl
    · exact h.2.1 w hw
    · exact Nat.xor_lt_two_pow (n := 64) (h.2.1 y (List.mem_of_getElem? hy)) hm
  · rw [bit_set hi, hQ, ← Bool.xor_assoc, ← h.2.2 x]
    by_cases hx : x / 64 = i
    · rw [if_pos hx, bit_at hy hx, Nat.testBit_xor]; simp [hx]
    · rw [if_neg hx]; simp [hx]
/-- Words whose bits are cleared where P tells. -/
def Cleared (ws ws' : List Nat) (P : Nat → Bool) : Prop := ws'.length = ws.length ∧ (∀ w ∈ ws', w < 18446744073709551616) ∧ ∀ x, bitOf ws' x = (bitOf ws x && !P x)
theorem Cleared.refl {ws : List Nat} (h : ∀ w ∈ ws, w < 18446744073709551616) : Cleared ws ws (fun _ => false) := ⟨rfl, h, fun x => by simp⟩
theorem Cleared.word {ws v : List Nat} {P Q : Nat → Bool} {i y m : Nat} (h : Cleared ws v P) (hy : v[i]? = some y) (hm : m < 18446744073709551616) (hQ : ∀ x, Q x = (P x || (decide (x / 64 = i) && m.testBit (x % 64)))) : Cleared ws (v.set i (y &&& (18446744073709551615 - m))) Q := by
  obtain ⟨hi, _⟩ := List.getElem?_eq_some_iff.1 hy
  refine ⟨by rw [List.length_set]; exact h.1, fun w hw => ?_, fun x => ?_⟩
  · rcases List.mem_or_eq_of_mem_set hw with hw | rfl
    · exact h.2.1 w hw
    · exact Nat.lt_of_le_of_lt Nat.and_le_left (h.2.1 y (List.mem_of_getElem? hy))
  · have e : (18446744073709551615 - m).testBit (x % 64) = !m.testBit (x % 64) := by
      have := Nat.testBit_two_pow_sub_succ (n := 64) (x := m) hm (x % 64)
      rw [show (2 : Nat) ^ 64 - (m + 1) = 18446744073709551615 - m by omega] at this
      rw [this]; simp; omega
    rw [bit_set hi, hQ, Bool.not_or, ← Bool.and_assoc, ← h.2.2 x]
    by_cases hx : x / 64 = i
    · rw [if_pos hx, bit_at hy hx, Nat.testBit_and, e]; simp [hx]
    · rw [if_neg hx]; simp [hx]
theorem Cleared.zero {ws v : List Nat} {P Q : Nat → Bool} {i y : Nat} (h : Cleared ws v P) (hy : v[i]? = some y) (hQ : ∀ x, Q x = (P x || decide (x / 64 = i))) : Cleared ws (v.set i 0) Q := by
  have := h.word (m := 18446744073709551615) (Q := Q) hy (by decide) (fun x => by
    rw [hQ]
    congr 1
    rw [show (18446744073709551615 : Nat) = 2 ^ 64 - 1 from rfl, Nat.testBit_two_pow_sub_one]
    have : x % 64 < 64 := Nat.mod_lt _ (by decide)
    simp [this])
  simpa using this
/-- Outside of a range words are the same. -/
theorem word_out {ws ws' : List Nat} {s e i : Nat} (hl : ws'.length = ws.length) (h' : ∀ w ∈ ws', w < 18446744073709551616) (hw : ∀ w ∈ ws, w < 18446744073709551616) (h : ∀ x, ¬ (s ≤ x ∧ x < e) → bitOf ws' x = bitOf ws x) (hi : i < s / 64 ∨ (e - 1) / 64 < i) (he : 0 < e) : ws'[i]? = ws[i]? := by
  by_cases hil : i < ws.length
  · have hil' : i < ws'.length := by rw [hl]; exact hil
    rw [List.getElem?_eq_getElem hil, List.getElem?_eq_getElem hil']
    congr 1
    refine word_eq (h' _ (List.getElem_mem _)) (hw _ (List.getElem_mem _)) (fun j hj => ?_)
    have := h (64 * i + j) (by omega)
    unfold bitOf at this
    rw [show (64 * i + j) / 64 = i by omega, show (64 * i + j) % 64 = j by omega, List.getD_eq_getElem?_getD, List.getD_eq_getElem?_getD, List.getElem?_eq_getElem hil, List.getElem?_eq_getElem hil'] at this
    simpa using this
  · rw [List.getElem?_eq_none (by rw [hl]; omega), List.getElem?_eq_none (by omega)]
/-- How many numbers a change within a range brings, as the library reckons it. -/
theorem seg_card {ws ws' : List Nat} {s e : Nat} (hl : ws'.length = ws.length) (h' : ∀ w ∈ ws', w < 18446744073709551616) (hw : ∀ w ∈ ws, w < 18446744073709551616) (h : ∀ x, ¬ (s ≤ x ∧ x < e) → bitOf ws' x = bitOf ws x) (hse : s < e) :
    onesW ws' + onesW (seg ws (s / 64) ((e - 1) / 64 + 1)) = onesW ws + onesW (seg ws' (s / 64) ((e - 1) / 64 + 1)) := by
  have c1 := onesW_cut ws (s / 64) ((e - 1) / 64 + 1) (by omega)
  have c2 := onesW_cut ws' (s / 64) ((e - 1) / 64 + 1) (by omega)
  have t : ws'.take (s / 64) = ws.take (s / 64) := by
    apply List.ext_getElem?
    intro i
    by_cases hi : i < s / 64
    · rw [List.getElem?_take_of_lt hi, List.getElem?_take_of_lt hi, word_out hl h' hw h (.inl hi) (by omega)]
    · rw [List.getElem?_eq_none (by rw [List.length_take]; omega), List.getElem?_eq_none (by rw [List.length_take]; omega)]
  have d : ws'.drop ((e - 1) / 64 + 1) = ws.drop ((e - 1) / 64 + 1) := by
    apply List.ext_getElem?
    intro i
    rw [List.getElem?_drop, List.getElem?_drop, word_out hl h' hw h (.inr (by omega)) (by omega)]
  rw [t, d] at c2
  omega
/-- The range s up to e, as bits. -/
def rgB (s e : Nat) (x : Nat) : Bool := decide (s ≤ x) && decide (x < e)
theorem rgB_out {s e x : Nat} (h : ¬ (s ≤ x ∧ x < e)) : rgB s e x = false := by
  unfold rgB
  rw [Bool.and_eq_false_iff]
  by_cases hs : s ≤ x
  · right; simp; omega
  · left; simpa using hs
theorem rgB_in {s e x : Nat} : rgB s e x = true ↔ s ≤ x ∧ x < e := by unfold rgB; simp
theorem cleared_nums {ws ws' : List Nat} {s e : Nat} (h : Cleared ws ws' (rgB s e)) : restFrom (bitOf ws') 0 = cutS (restFrom (bitOf ws) 0) s e := by
  have hr : ∀ f : Nat → Bool, (restFrom f 0).Pairwise (· < ·) := fun f => (List.pairwise_lt_range').filter _
  refine sorted_ext (hr _) (cutS_rising (hr _) s e) (fun x => ?_)
  rw [cutS_mem]
  unfold restFrom
  simp only [List.mem_filter, List.mem_range'_1, h.2.2 x]
  by_cases hx : s ≤ x ∧ x < e
  · rw [rgB_in.2 hx]; simp [hx]
  · rw [rgB_out hx]; simp [hx]
theorem xored_nums {ws ws' : List Nat} {s e : Nat} (h : Xored ws ws' (rgB s e)) (hse : s ≤ e) (he : e ≤ 65536) : restFrom (bitOf ws') 0 = xorS (restFrom (bitOf ws) 0) s e := by
  have hr : ∀ f : Nat → Bool, (restFrom f 0).Pairwise (· < ·) := fun f => (List.pairwise_lt_range').filter _
  refine sorted_ext (hr _) (xorS_rising (hr _) hse) (fun x => ?_)
  rw [xorS_mem hse]
  unfold restFrom
  simp only [List.mem_filter, List.mem_range'_1, h.2.2 x]
  by_cases hx : s ≤ x ∧ x < e
  · rw [rgB_in.2 hx]
    have h1 : 0 ≤ x ∧ x < 0 + (65536 - 0) := by omega
    simp only [hx, h1, true_and, not_true_eq_false, and_false, false_or, and_true]
    cases bitOf ws x <;> simp
  · rw [rgB_out hx]; simp [hx]
theorem filter_two (l : List Nat) (f : Nat → Bool) : (l.filter f).length + (l.filter (fun y => !f y)).length = l.length := by
  induction l with
  | nil => rfl
  | cons x l ih =>
    rw [List.filter_cons, List.filter_cons, List.length_cons]
    cases f x <;> simp <;> omega
/-- Turned round as a whole. -/
theorem xor_all {l : List Nat} (hs : Rising l) (hb : ∀ x ∈ l, x < 65536) : (xorS l 0 65536).length = 65536 - l.length := by
  have e1 : l.filter (fun y => decide (y < 0)) = [] := by simp
  have e2 : l.filter (fun y => decide (65536 ≤ y)) = [] := List.filter_eq_nil_iff.2 (fun y hy => by have := hb y hy; simp; omega)
  have e3 : (List.range' 0 65536).filter (fun y => decide (y ∈ l)) = l := by
    refine sorted_ext ((List.pairwise_lt_range').filter _) hs (fun x => ?_)
    simp only [List.mem_filter, List.mem_range'_1, decide_eq_true_eq]
    exact ⟨fun h => h.2, fun h => ⟨⟨Nat.zero_le _, by have := hb x h; omega⟩, h⟩⟩
  have e4 := filter_two (List.range' 0 65536) (fun y => decide (y ∈ l))
  rw [e3, List.length_range'] at e4
  unfold xorS
  rw [e1, e2, List.nil_append, List.append_nil, Nat.sub_zero]
  have e5 : (List.range' 0 65536).filter (fun y => decide (y ∉ l)) = (List.range' 0 65536).filter (fun y => !decide (y ∈ l)) := List.filter_congr (fun y _ => by simp)
  rw [e5]
  omega
/-- The steps of resetBitmapRange. -/
theorem clear_one {ws : List Nat} {s e f x : Nat} (hw : ∀ w ∈ ws, w < 18446744073709551616) (hse : s < e) (hf : f = s / 64) (h : f = (e - 1) / 64) (hx : ws[f]? = some x) :
    Cleared ws (ws.set f (x &&& (18446744073709551615 - ((18446744073709551616 - 2 ^ (s % 64)) &&& (18446744073709551615 / 2 ^ ((64 - e % 64) % 64)))))) (rgB s e) := by
  have hp : 0 < 2 ^ (s % 64) := Nat.two_pow_pos _
  refine (Cleared.refl hw).word hx (Nat.lt_of_le_of_lt Nat.and_le_left (by omega)) (fun z => ?_)
  rw [Nat.testBit_and, mask_hi _ (by omega), mask_lo, Bool.eq_iff_iff]
  unfold rgB
  simp only [Bool.and_eq_true, decide_eq_true_eq, Bool.or_eq_true, Bool.false_eq_true, false_or]
  omega
theorem clear_lo {ws : List Nat} {s f x : Nat} (hw : ∀ w ∈ ws, w < 18446744073709551616) (hf : f = s / 64) (hx : ws[f]? = some x) :
    Cleared ws (ws.set f (x &&& (18446744073709551615 - (18446744073709551616 - 2 ^ (s % 64))))) (rgB s (64 * (f + 1))) := by
  have hp : 0 < 2 ^ (s % 64) := Nat.two_pow_pos _
  refine (Cleared.refl hw).word hx (by omega) (fun z => ?_)
  rw [mask_hi _ (by omega), Bool.eq_iff_iff]
  unfold rgB
  simp only [Bool.and_eq_true, decide_eq_true_eq, Bool.or_eq_true, Bool.false_eq_true, false_or]
  omega
theorem clear_mid {ws v : List Nat} {s i y : Nat} (h : Cleared ws v (rgB s (64 * i))) (hs : s ≤ 64 * i) (hy : v[i]? = some y) : Cleared ws (v.set i 0) (rgB s (64 * (i + 1))) := by
  refine h.zero hy (fun z => ?_)
  rw [Bool.eq_iff_iff]
  unfold rgB
  simp only [Bool.and_eq_true, decide_eq_true_eq, Bool.or_eq_true]
  omega
theorem clear_hi {ws v : List Nat} {s e l y : Nat} (h : Cleared ws v (rgB s (64 * l))) (hl : l = (e - 1) / 64) (hs : s ≤ 64 * l) (he : 0 < e) (hy : v[l]? = some y) : Cleared ws (v.set l (y &&& (18446744073709551615 - 18446744073709551615 / 2 ^ ((64 - e % 64) % 64)))) (rgB s e) := by
  refine h.word hy (Nat.lt_of_le_of_lt (Nat.div_le_self _ _) (by decide)) (fun z => ?_)
  rw [mask_lo, Bool.eq_iff_iff]
  unfold rgB
  simp only [Bool.and_eq_true, decide_eq_true_eq, Bool.or_eq_true]
  omega
/-- The steps of flipBitmapRange. -/
def flB (f s i : Nat) (x : Nat) : Bool := rgB (64 * f) (64 * i) x ^^ rgB (64 * f) s x
theorem flip_lo {ws : List Nat} {s f x : Nat} (hw : ∀ w ∈ ws, w < 18446744073709551616) (hf : f = s / 64) (hx : ws[f]? = some x) :
    Xored ws (ws.set f (x ^^^ (18446744073709551615 - (18446744073709551616 - 2 ^ (s % 64))))) (flB f s f) := by
  have hp : 0 < 2 ^ (s % 64) := Nat.two_pow_pos _
  refine (Xored.refl hw).word hx (by omega) (fun z => ?_)
  have hp2 : 2 ^ (s % 64) ≤ 2 ^ 64 := Nat.pow_le_pow_right (by decide) (by omega)
  have e : 18446744073709551615 - (18446744073709551616 - 2 ^ (s % 64)) = 2 ^ (s % 64) - 1 := by omega
  rw [e, Nat.testBit_two_pow_sub_one]
  unfold flB
  rw [rgB_out (show ¬ (64 * f ≤ z ∧ z < 64 * f) by omega), Bool.false_xor, Bool.false_xor, Bool.eq_iff_iff, rgB_in]
  simp only [Bool.and_eq_true, decide_eq_true_eq]
  omega
theorem flip_mid {ws v : List Nat} {f s i y : Nat} (h : Xored ws v (flB f s i)) (hi : f ≤ i) (hy : v[i]? = some y) : Xored ws (v.set i (18446744073709551615 - y)) (flB f s (i + 1)) := by
  have hyl := h.2.1 y (List.mem_of_getElem? hy)
  have e : y ^^^ 18446744073709551615 = 18446744073709551615 - y := by
    apply Nat.eq_of_testBit_eq
    intro j
    have h1 := Nat.testBit_two_pow_sub_succ (n := 64) (x := y) hyl j
    rw [show (2 : Nat) ^ 64 - (y + 1) = 18446744073709551615 - y by omega] at h1
    rw [h1, Nat.testBit_xor, show (18446744073709551615 : Nat) = 2 ^ 64 - 1 from rfl, Nat.testBit_two_pow_sub_one]
    by_cases hj : j < 64
    · simp [hj]
    · rw [Nat.testBit_lt_two_pow (Nat.lt_of_lt_of_le (show y < 2 ^ 64 from hyl) (Nat.pow_le_pow_right (by decide) (by omega)))]
      simp [hj]
  rw [← e]
  refine h.word hy (by decide) (fun z => ?_)
  rw [show (18446744073709551615 : Nat) = 2 ^ 64 - 1 from rfl, Nat.testBit_two_pow_sub_one]
  have hz : z % 64 < 64 := Nat.mod_lt _ (by decide)
  unfold flB
  rw [Bool.xor_right_comm]
  congr 1
  by_cases h1 : z / 64 = i
  · rw [rgB_in.2 (show 64 * f ≤ z ∧ z < 64 * (i + 1) by omega), rgB_out (show ¬ (64 * f ≤ z ∧ z < 64 * i) by omega)]
    simp [h1, hz]
  · simp only [h1, decide_false, Bool.false_and, Bool.xor_false]
    rw [Bool.eq_iff_iff, rgB_in, rgB_in]
    omega
theorem flip_hi {ws v : List Nat} {f s e l y : Nat} (h : Xored ws v (flB f s l)) (hf : f = s / 64) (hl : l = (e - 1) / 64) (hse : s < e) (hy : v[l]? = some y) : Xored ws (v.set l (y ^^^ (18446744073709551615 / 2 ^ ((64 - e % 64) % 64)))) (rgB s e) := by
  refine h.word hy (Nat.lt_of_le_of_lt (Nat.div_le_self _ _) (by decide)) (fun z => ?_)
  rw [mask_lo]
  unfold flB
  rw [Bool.xor_right_comm]
  have e1 : (rgB (64 * f) (64 * l) z ^^ (decide (z / 64 = l) && decide (z % 64 < 64 - (64 - e % 64) % 64))) = rgB (64 * f) e z := by
    by_cases h1 : z / 64 = l
    · rw [rgB_out (show ¬ (64 * f ≤ z ∧ z < 64 * l) by omega), Bool.false_xor, Bool.eq_iff_iff, rgB_in]
      simp only [Bool.and_eq_true, decide_eq_true_eq]
      omega
    · simp only [h1, decide_false, Bool.false_and, Bool.xor_false]
      rw [Bool.eq_iff_iff, rgB_in, rgB_in]
      omega
  rw [e1]
  by_cases h2 : z < s
  · rw [rgB_out (show ¬ (s ≤ z ∧ z < e) by omega)]
    by_cases h3 : 64 * f ≤ z
    · rw [rgB_in.2 (show 64 * f ≤ z ∧ z < e by omega), rgB_in.2 (show 64 * f ≤ z ∧ z < s by omega)]; rfl
    · rw [rgB_out (show ¬ (64 * f ≤ z ∧ z < e) by omega), rgB_out (show ¬ (64 * f ≤ z ∧ z < s) by omega)]; rfl
  · rw [rgB_out (show ¬ (64 * f ≤ z ∧ z < s) by omega), Bool.xor_false, Bool.eq_iff_iff, rgB_in, rgB_in]
    omega
end Go.Roar

namespace Go.Roar
open Go.RowKit Go.Proofs
theorem WV.to {w w' : World} {g c : Nat} {ws : List Nat} (h : WV w g c ws) (k : Kept (fun _ => False) w w') : WV w' g c ws := h.kept k (fun h => h)
end Go.Roar
namespace Go.Proofs
open Go.RowKit Go.Roar
theorem xor64 (a b : Nat) (ha : a < 18446744073709551616) (hb : b < 18446744073709551616) : bits .xor .u64 (a : Int) (b : Int) = ((a ^^^ b : Nat) : Int) := Go.u64_xor_nat a b ha hb
set_option maxRecDepth 100000 in
set_option maxHeartbeats 2000000 in
theorem resetRange_any (g c : Nat) (ws : List Nat) (s e : Nat) (w : World) (h : WV w g c ws) (hse : s < e) (he : e ≤ 65536) :
    Calls Tryz.prog 304 #[.slice (some ⟨g, 0, none⟩) 1024 c, .int .i64 (s : Int), .int .i64 (e : Int)] w fun ed w' => ed = .returned (.tuple #[]) ∧ ∃ ws', WV w' g c ws' ∧ Cleared ws ws' (rgB s e) ∧ Kept (fun k => k = g) w w' := by
  have H := Lib.hid h
  clear h
  have i1 : ¬ (e : Int) ≤ (s : Int) := by omega
  obtain ⟨f, hf⟩ : ∃ f, f = s / 64 := ⟨_, rfl⟩
  obtain ⟨l, hl⟩ : ∃ l, l = (e - 1) / 64 := ⟨_, rfl⟩
  have d1 : (s : Int) / 64 = (f : Int) := by omega
  have d2 : ((e : Int) - 1) / 64 = (l : Int) := by omega
  have hl2 : l < 1024 := by omega
  have hfl : f ≤ l := by omega
  have l1 : (l : Int) < 1024 := by omega
  have l2 : (f : Int) < 1024 := by omega
  obtain ⟨x, hx⟩ : ∃ x, ws[f]? = some x := ⟨_, List.getElem?_eq_getElem (by rw [H.out.1]; omega)⟩
  have c0 := H.out.cell hx
  have f0 := H.out.free f
  have hxl := H.out.2.1 x (List.mem_of_getElem? hx)
  obtain ⟨cz, hcz⟩ : ∃ cz, cz = (64 - e % 64) % 64 := ⟨_, rfl⟩
  have q1 : (IntKind.u64.wrap (-(e : Int))).tmod 64 = (cz : Int) := by rw [neg_rem e, hcz]
  have q2 := shl_all ⟨s % 64, by omega⟩
  have q3 := shr_all ⟨cz, by omega⟩
  dsimp only at q2 q3
  have hM1 : 18446744073709551616 - 2 ^ (s % 64) < 18446744073709551616 := by have := Nat.two_pow_pos (s % 64); omega
  have hM2 : 18446744073709551615 / 2 ^ cz < 18446744073709551616 := Nat.lt_of_le_of_lt (Nat.div_le_self _ _) (by decide)
  obtain ⟨M1, hM1e⟩ : ∃ M, M = 18446744073709551616 - 2 ^ (s % 64) := ⟨_, rfl⟩
  obtain ⟨M2, hM2e⟩ : ∃ M, M = 18446744073709551615 / 2 ^ cz := ⟨_, rfl⟩
  rw [← hM1e] at q2 hM1
  rw [← hM2e] at q3 hM2
  have q4 : bits .and .u64 (M1 : Int) (M2 : Int) = ((M1 &&& M2 : Nat) : Int) := and64 _ _ hM1 hM2
  have hM12 : M1 &&& M2 < 18446744073709551616 := Nat.lt_of_le_of_lt Nat.and_le_left hM1
  have n1 := not64 (M1 &&& M2) hM12
  have n2 := not64 M1 hM1
  have n3 := not64 M2 hM2
  obtain ⟨N1, hN1⟩ : ∃ N, N = 18446744073709551615 - (M1 &&& M2) := ⟨_, rfl⟩
  obtain ⟨N2, hN2⟩ : ∃ N, N = 18446744073709551615 - M1 := ⟨_, rfl⟩
  obtain ⟨N3, hN3⟩ : ∃ N, N = 18446744073709551615 - M2 := ⟨_, rfl⟩
  rw [← hN1] at n1
  rw [← hN2] at n2
  rw [← hN3] at n3
  have q5 : bits .and .u64 (x : Int) (N1 : Int) = ((x &&& N1 : Nat) : Int) := and64 _ _ hxl (by omega)
  have q6 : bits .and .u64 (x : Int) (N2 : Int) = ((x &&& N2 : Nat) : Int) := and64 _ _ hxl (by omega)
  have b5 : x &&& N1 < 18446744073709551616 := Nat.lt_of_le_of_lt Nat.and_le_left hxl
  have b6 : x &&& N2 < 18446744073709551616 := Nat.lt_of_le_of_lt Nat.and_le_left hxl
  have hN3l : N3 < 18446744073709551616 := by omega
  have cz1 : cz < 64 := by omega
  by_cases hfl2 : f = l
  · subst hfl2
    have hfin := clear_one (s := s) (e := e) H.out.2.1 hse hf hl hx
    rw [← hcz, ← hM1e, ← hM2e, ← hN1] at hfin
    have HW := Lib.hid (H.out.set f (x &&& N1) (by omega) b5)
    have HF := Lib.hid hfin
    clear hfin hM1e hM2e hcz hN1 hN2 hN3 hx hf hl q6 b6 n2 n3 hN3l hxl hM1 hM2 hM12
    go_enter Tryz.func304, Tryz.ntmps304
    go_wp2
    (try simp only [Exit.inBlock, Exit.then]); refine bodyPost_ret (results_none rfl _ _ _) rfl ?_
    exact ⟨rfl, _, HW.out, HF.out, Kept.one _ _ _ _⟩
  · have m1 : ((f : Int) == (l : Int)) = false := by rw [beq_eq_false_iff_ne]; omega
    have m2 : ¬ (f : Int) = (l : Int) := by omega
    have hlo := clear_lo (s := s) H.out.2.1 hf hx
    rw [← hM1e, ← hN2] at hlo
    have HW := Lib.hid (H.out.set f (x &&& N2) (by omega) b6)
    have HF : Hid (Cleared ws (ws.set f (x &&& N2)) (rgB s (64 * (f + 1)))) := Lib.hid hlo
    have hsf : s ≤ 64 * (f + 1) := by omega
    have HHI := Lib.hid (fun (v : List Nat) (y : Nat) (h1 : Cleared ws v (rgB s (64 * l))) (h2 : v[l]? = some y) => show Cleared ws (v.set l (y &&& N3)) (rgB s e) from by
      have := clear_hi h1 hl (by omega) (by omega) h2
      rw [← hcz, ← hM2e, ← hN3] at this
      exact this)
    have HL := Lib.hid hfl2
    clear hlo hM1e hM2e hcz hN1 hN2 hN3 hx hf hl q5 b5 b6 n1 hxl hM1 hM2 hM12
    go_enter Tryz.func304, Tryz.ntmps304
    go_wp2
    go_loopw [8] (fun i wr => ∃ (k : Nat) (v : List Nat), i = .int .i64 k ∧ f + 1 ≤ k ∧ k ≤ l ∧ Hid (WV wr g c v) ∧ Hid (Cleared ws v (rgB s (64 * k))) ∧ Hid (Kept (fun k => k = g) w wr)) (fun i _ => l - (intOf i).toNat)
    case atStart => exact ⟨f + 1, _, by go_num, Nat.le_refl _, by have := HL.out; omega, HW, HF, Lib.hid (Kept.one _ _ _ _)⟩
    case round =>
      obtain ⟨k, v, rfl, k1, k2, Hv, Hfl, Hk⟩ := hrel
      by_cases hlt : k < l
      · obtain ⟨y, hy⟩ : ∃ y, v[k]? = some y := ⟨_, List.getElem?_eq_getElem (by rw [Hv.out.1]; omega)⟩
        have cy := Hv.out.cell hy
        have fy := Hv.out.free k
        have i2 : (k : Int) < (l : Int) := by omega
        have i3 : (k : Int) < 1024 := by omega
        have HW2 := Lib.hid (Hv.out.set k 0 (by omega) (by decide))
        have HF2 := Lib.hid (clear_mid Hfl.out (by omega) hy)
        have HK2 := Lib.hid (Hk.out.trans (Kept.one wr g k (.int .u64 0)))
        clear hy
        go_wp2
        go_roundw
        case rel => exact ⟨k + 1, _, by go_num, by omega, by omega, HW2, HF2, HK2⟩
        case measure => simp only [intOf]; omega
      · obtain rfl : l = k := by omega
        obtain ⟨y, hy⟩ : ∃ y, v[l]? = some y := ⟨_, List.getElem?_eq_getElem (by rw [Hv.out.1]; omega)⟩
        have cy := Hv.out.cell hy
        have fy := Hv.out.free l
        have hyl := Hv.out.2.1 y (List.mem_of_getElem? hy)
        have q7 : bits .and .u64 (y : Int) (N3 : Int) = ((y &&& N3 : Nat) : Int) := and64 _ _ hyl hN3l
        have HW3 := Lib.hid (Hv.out.set l (y &&& N3) (by omega) (Nat.lt_of_le_of_lt Nat.and_le_left hyl))
        have HF3 := Lib.hid (HHI.out v y Hfl.out hy)
        have HK3 := Lib.hid (Hk.out.trans (Kept.one wr g l (.int .u64 ((y &&& N3 : Nat) : Int))))
        clear hy hyl
        go_wp2
        go_end0
        exact ⟨rfl, _, HW3.out, HF3.out, HK3.out⟩

set_option maxRecDepth 100000 in
set_option maxHeartbeats 2000000 in
theorem flipRange_any (g c : Nat) (ws : List Nat) (s e : Nat) (w : World) (h : WV w g c ws) (hse : s < e) (he : e ≤ 65536) :
    Calls Tryz.prog 162 #[.slice (some ⟨g, 0, none⟩) 1024 c, .int .i64 (s : Int), .int .i64 (e : Int)] w fun ed w' => ed = .returned (.tuple #[]) ∧ ∃ ws', WV w' g c ws' ∧ Xored ws ws' (rgB s e) ∧ Kept (fun k => k = g) w w' := by
  have H := Lib.hid h
  clear h
  have i1 : ¬ (e : Int) ≤ (s : Int) := by omega
  obtain ⟨f, hf⟩ : ∃ f, f = s / 64 := ⟨_, rfl⟩
  obtain ⟨l, hl⟩ : ∃ l, l = (e - 1) / 64 := ⟨_, rfl⟩
  have d1 : (s : Int) / 64 = (f : Int) := by omega
  have d2 : ((e : Int) - 1) / 64 = (l : Int) := by omega
  have hl2 : l < 1024 := by omega
  have hfl : f ≤ l := by omega
  have l1 : (l : Int) < 1024 := by omega
  have l2 : (f : Int) < 1024 := by omega
  obtain ⟨x, hx⟩ : ∃ x, ws[f]? = some x := ⟨_, List.getElem?_eq_getElem (by rw [H.out.1]; omega)⟩
  have c0 := H.out.cell hx
  have f0 := H.out.free f
  have hxl := H.out.2.1 x (List.mem_of_getElem? hx)
  obtain ⟨cz, hcz⟩ : ∃ cz, cz = (64 - e % 64) % 64 := ⟨_, rfl⟩
  have q1 : (IntKind.u64.wrap (-(e : Int))).tmod 64 = (cz : Int) := by rw [neg_rem e, hcz]
  have q2 := shl_all ⟨s % 64, by omega⟩
  have q3 := shr_all ⟨cz, by omega⟩
  dsimp only at q2 q3
  have hM1 : 18446744073709551616 - 2 ^ (s % 64) < 18446744073709551616 := by have := Nat.two_pow_pos (s % 64); omega
  have hM2 : 18446744073709551615 / 2 ^ cz < 18446744073709551616 := Nat.lt_of_le_of_lt (Nat.div_le_self _ _) (by decide)
  obtain ⟨M1, hM1e⟩ : ∃ M, M = 18446744073709551616 - 2 ^ (s % 64) := ⟨_, rfl⟩
  obtain ⟨M2, hM2e⟩ : ∃ M, M = 18446744073709551615 / 2 ^ cz := ⟨_, rfl⟩
  rw [← hM1e] at q2 hM1
  rw [← hM2e] at q3 hM2
  have n2 := not64 M1 hM1
  obtain ⟨N2, hN2⟩ : ∃ N, N = 18446744073709551615 - M1 := ⟨_, rfl⟩
  rw [← hN2] at n2
  have q6 : bits .xor .u64 (x : Int) (N2 : Int) = ((x ^^^ N2 : Nat) : Int) := xor64 _ _ hxl (by omega)
  have b6 : x ^^^ N2 < 18446744073709551616 := Nat.xor_lt_two_pow (n := 64) hxl (by omega)
  have cz1 : cz < 64 := by omega
  have hlo := flip_lo (s := s) H.out.2.1 hf hx
  rw [← hM1e, ← hN2] at hlo
  have HW := Lib.hid (H.out.set f (x ^^^ N2) (by omega) b6)
  have HF : Hid (Xored ws (ws.set f (x ^^^ N2)) (flB f s f)) := Lib.hid hlo
  have HHI := Lib.hid (fun (v : List Nat) (y : Nat) (h1 : Xored ws v (flB f s l)) (h2 : v[l]? = some y) => show Xored ws (v.set l (y ^^^ M2)) (rgB s e) from by
    have := flip_hi h1 hf hl hse h2
    rw [← hcz, ← hM2e] at this
    exact this)
  clear hlo hM1e hM2e hcz hN2 hx hf hl b6 hxl hM1
  go_enter Tryz.func162, Tryz.ntmps162
  go_wp2
  go_loopw [8] (fun i wr => ∃ (k : Nat) (v : List Nat), i = .int .i64 k ∧ f ≤ k ∧ k ≤ l ∧ Hid (WV wr g c v) ∧ Hid (Xored ws v (flB f s k)) ∧ Hid (Kept (fun k => k = g) w wr)) (fun i _ => l - (intOf i).toNat)
  case atStart => exact ⟨f, _, by go_num, Nat.le_refl _, hfl, HW, HF, Lib.hid (Kept.one _ _ _ _)⟩
  case round =>
    obtain ⟨k, v, rfl, k1, k2, Hv, Hfl, Hk⟩ := hrel
    by_cases hlt : k < l
    · obtain ⟨y, hy⟩ : ∃ y, v[k]? = some y := ⟨_, List.getElem?_eq_getElem (by rw [Hv.out.1]; omega)⟩
      have cy := Hv.out.cell hy
      have fy := Hv.out.free k
      have hyl := Hv.out.2.1 y (List.mem_of_getElem? hy)
      have n4 := not64 y hyl
      have i2 : (k : Int) < (l : Int) := by omega
      have i3 : (k : Int) < 1024 := by omega
      have HW2 := Lib.hid (Hv.out.set k (18446744073709551615 - y) (by omega) (by omega))
      have HF2 := Lib.hid (flip_mid Hfl.out k1 hy)
      have HK2 := Lib.hid (Hk.out.trans (Kept.one wr g k (.int .u64 ((18446744073709551615 - y : Nat) : Int))))
      clear hy hyl
      go_wp2
      go_roundw
      case rel => exact ⟨k + 1, _, by go_num, by omega, by omega, HW2, HF2, HK2⟩
      case measure => simp only [intOf]; omega
    · obtain rfl : l = k := by omega
      obtain ⟨y, hy⟩ : ∃ y, v[l]? = some y := ⟨_, List.getElem?_eq_getElem (by rw [Hv.out.1]; omega)⟩
      have cy := Hv.out.cell hy
      have fy := Hv.out.free l
      have hyl := Hv.out.2.1 y (List.mem_of_getElem? hy)
      have q7 : bits .xor .u64 (y : Int) (M2 : Int) = ((y ^^^ M2 : Nat) : Int) := xor64 _ _ hyl hM2
      have HW3 := Lib.hid (Hv.out.set l (y ^^^ M2) (by omega) (Nat.xor_lt_two_pow (n := 64) hyl hM2))
      have HF3 := Lib.hid (HHI.out v y Hfl.out hy)
      have HK3 := Lib.hid (Hk.out.trans (Kept.one wr g l (.int .u64 ((y ^^^ M2 : Nat) : Int))))
      clear hy hyl
      go_wp2
      go_end0
      exact ⟨rfl, _, HW3.out, HF3.out, HK3.out⟩
theorem wrap_diff (A A' B B' : Nat) (h : A' + B = A + B') (_hB : B ≤ 65536) (_hB' : B' ≤ 65536) (_hA : A ≤ 65536) (_hA' : A' ≤ 65536) : IntKind.i64.wrap (IntKind.u64.wrap ((B' : Int) - (B : Int))) = (A' : Int) - (A : Int) := by
  rw [IntKind.wrap_u64]
  have e : (A' : Int) - (A : Int) = (B' : Int) - (B : Int) := by omega
  rw [e]
  rcases Nat.lt_or_ge B' B with h1 | h1
  · have : ((B' : Int) - (B : Int)) % 18446744073709551616 = (B' : Int) - (B : Int) + 18446744073709551616 := by omega
    rw [this, IntKind.wrap_i64]
    omega
  · have : ((B' : Int) - (B : Int)) % 18446744073709551616 = (B' : Int) - (B : Int) := by omega
    rw [this, IntWalk.i64_in _ (by omega)]

set_option maxRecDepth 100000 in
set_option maxHeartbeats 1000000 in
theorem resetRC_any (g c : Nat) (ws : List Nat) (s e : Nat) (w : World) (h : WV w g c ws) (hse : s < e) (he : e ≤ 65536) :
    Calls Tryz.prog 302 #[.slice (some ⟨g, 0, none⟩) 1024 c, .int .i64 (s : Int), .int .i64 (e : Int)] w fun ed w' => ∃ ws', ed = .returned (.int .i64 ((onesW ws' : Int) - (onesW ws : Int))) ∧ WV w' g c ws' ∧ Cleared ws ws' (rgB s e) ∧ Kept (fun k => k = g) w w' := by
  have C1 := Lib.hid (wordCard_any g c ws s e w h hse he)
  have C2 := Lib.hid (resetRange_any g c ws s e w h hse he)
  have C3 := Lib.hid (fun (ws' : List Nat) (W : World) (h' : WV W g c ws') => wordCard_any g c ws' s e W h' hse he)
  have H := Lib.hid h
  have b0 := onesW_le ws
  have b1 := h.1
  have b2 := onesW_cut ws (s / 64) ((e - 1) / 64 + 1) (by omega)
  have HWD := Lib.hid (fun (ws' : List Nat) (W : World) (h' : WV W g c ws') (hc : Cleared ws ws' (rgB s e)) => wrap_diff (onesW ws) (onesW ws') (onesW (seg ws (s / 64) ((e - 1) / 64 + 1))) (onesW (seg ws' (s / 64) ((e - 1) / 64 + 1))) (seg_card hc.1 hc.2.1 h.2.1 (fun x hx => by rw [hc.2.2 x, rgB_out hx]; simp) hse) (by omega) (by have := onesW_cut ws' (s / 64) ((e - 1) / 64 + 1) (by omega); have := onesW_le ws'; have := h'.1; omega) (by omega) (by have := onesW_le ws'; have := h'.1; omega))
  clear h b0 b1 b2
  generalize hA : onesW (seg ws (s / 64) ((e - 1) / 64 + 1)) = A at *
  have HA := Lib.hid hA
  clear hA
  go_enter Tryz.func302, Tryz.ntmps302
  go_wp2_with (first
    | (go_at_call 80; (with_reducible refine C1.out.mono ?_); rintro ed w1 ⟨rfl, rfl⟩)
    | (go_at_call 304; (with_reducible refine C2.out.mono ?_); rintro ed w1 ⟨rfl, ws', hw, hfl, hk⟩; have C4 := C3.out ws' w1 hw; have hwd := HWD.out ws' w1 hw hfl; generalize onesW (seg ws' (s / 64) ((e - 1) / 64 + 1)) = A' at *; have C4' := Lib.hid C4; have HW := Lib.hid hw; have HF := Lib.hid hfl; have HK := Lib.hid hk; clear C4 hw hfl hk)
    | (go_at_call 80; (with_reducible refine C4'.out.mono ?_); rintro ed w2 ⟨rfl, rfl⟩)
    | fail)
  go_ret
  exact ⟨ws', rfl, HW.out, HF.out, HK.out⟩

set_option maxRecDepth 100000 in
set_option maxHeartbeats 1000000 in
theorem flipRC_any (g c : Nat) (ws : List Nat) (s e : Nat) (w : World) (h : WV w g c ws) (hse : s < e) (he : e ≤ 65536) :
    Calls Tryz.prog 164 #[.slice (some ⟨g, 0, none⟩) 1024 c, .int .i64 (s : Int), .int .i64 (e : Int)] w fun ed w' => ∃ ws', ed = .returned (.int .i64 ((onesW ws' : Int) - (onesW ws : Int))) ∧ WV w' g c ws' ∧ Xored ws ws' (rgB s e) ∧ Kept (fun k => k = g) w w' := by
  have C1 := Lib.hid (wordCard_any g c ws s e w h hse he)
  have C2 := Lib.hid (flipRange_any g c ws s e w h hse he)
  have C3 := Lib.hid (fun (ws' : List Nat) (W : World) (h' : WV W g c ws') => wordCard_any g c ws' s e W h' hse he)
  have H := Lib.hid h
  have b0 := onesW_le ws
  have b1 := h.1
  have b2 := onesW_cut ws (s / 64) ((e - 1) / 64 + 1) (by omega)
  have HWD := Lib.hid (fun (ws' : List Nat) (W : World) (h' : WV W g c ws') (hc : Xored ws ws' (rgB s e)) => wrap_diff (onesW ws) (onesW ws') (onesW (seg ws (s / 64) ((e - 1) / 64 + 1))) (onesW (seg ws' (s / 64) ((e - 1) / 64 + 1))) (seg_card hc.1 hc.2.1 h.2.1 (fun x hx => by rw [hc.2.2 x, rgB_out hx]; simp) hse) (by omega) (by have := onesW_cut ws' (s / 64) ((e - 1) / 64 + 1) (by omega); have := onesW_le ws'; have := h'.1; omega) (by omega) (by have := onesW_le ws'; have := h'.1; omega))
  clear h b0 b1 b2
  generalize hA : onesW (seg ws (s / 64) ((e - 1) / 64 + 1)) = A at *
  have HA := Lib.hid hA
  clear hA
  go_enter Tryz.func164, Tryz.ntmps164
  go_wp2_with (first
    | (go_at_call 80; (with_reducible refine C1.out.mono ?_); rintro ed w1 ⟨rfl, rfl⟩)
    | (go_at_call 162; (with_reducible refine C2.out.mono ?_); rintro ed w1 ⟨rfl, ws', hw, hfl, hk⟩; have C4 := C3.out ws' w1 hw; have hwd := HWD.out ws' w1 hw hfl; generalize onesW (seg ws' (s / 64) ((e - 1) / 64 + 1)) = A' at *; have C4' := Lib.hid C4; have HW := Lib.hid hw; have HF := Lib.hid hfl; have HK := Lib.hid hk; clear C4 hw hfl hk)
    | (go_at_call 80; (with_reducible refine C4'.out.mono ?_); rintro ed w2 ⟨rfl, rfl⟩)
    | fail)
  go_ret
  exact ⟨ws', rfl, HW.out, HF.out, HK.out⟩

set_option maxRecDepth 100000 in
set_option maxHeartbeats 1000000 in
theorem popSliceGo_any (g c : Nat) (ws : List Nat) (w : World) (h : WV w g c ws) :
    Calls Tryz.prog 169 #[.slice (some ⟨g, 0, none⟩) 1024 c] w fun ed w' => ed = .returned (.int .u64 ((onesW ws : Nat) : Int)) ∧ w = w' := by
  have H := Lib.hid h
  have Hl := Lib.hid h.1
  clear h
  go_enter Tryz.func169, Tryz.ntmps169
  go_wp2
  go_loopw [8, 3] (fun i a wr => ∃ k : Nat, i = .int .i64 k ∧ k ≤ 1024 ∧ a = .int .u64 ((onesW (seg ws 0 k) : Nat) : Int) ∧ w = wr) (fun i _ _ => 1024 - (intOf i).toNat)
  case atStart => exact ⟨0, by simp, by omega, by rw [seg_self]; rfl, rfl⟩
  case round =>
    obtain ⟨k, rfl, k2, rfl, rfl⟩ := hrel
    by_cases hlt : k < 1024
    · obtain ⟨x, hx⟩ : ∃ x, ws[k]? = some x := ⟨_, List.getElem?_eq_getElem (by rw [Hl.out]; omega)⟩
      have c0 := H.out.cell hx
      have hs := seg_succ (Nat.zero_le k) hx
      have i3 : (k : Int) < 1024 := by omega
      have P := Lib.hid (pop_any x (H.out.2.1 x (List.mem_of_getElem? hx)) w)
      have ho := ones_le 64 x
      have hb := onesW_le (seg ws 0 k)
      have hsl : (seg ws 0 k).length ≤ 1024 := by unfold seg; rw [List.length_drop, List.length_take]; omega
      have Hs := Lib.hid hs
      clear hs hx
      generalize onesW (seg ws 0 k) = A at *
      generalize ones 64 x = O at *
      go_wp2_with (first
        | (go_at_call 81; (with_reducible refine P.out.mono ?_); rintro ed w1 ⟨rfl, rfl⟩)
        | fail)
      go_roundw
      case rel => exact ⟨k + 1, by go_num, by omega, by rw [Hs.out]; go_num, by first | rfl | trivial⟩
      case measure => simp only [intOf]; omega
    · obtain rfl : k = 1024 := by omega
      have e : seg ws 0 1024 = ws := by
        unfold seg
        rw [List.drop_zero, List.take_of_length_le (by rw [Hl.out]; exact Nat.le_refl _)]
      rw [e]
      go_wp2
      go_ret
      exact ⟨rfl, rfl⟩
theorem popSlice_any (g c : Nat) (ws : List Nat) (w : World) (h : WV w g c ws) :
    Calls Tryz.prog 167 #[.slice (some ⟨g, 0, none⟩) 1024 c] w fun ed w' => ed = .returned (.int .u64 ((onesW ws : Nat) : Int)) ∧ w = w' := by
  have C := Lib.hid (popSliceGo_any g c ws w h)
  clear h
  generalize onesW ws = A at *
  go_enter Tryz.func167, Tryz.ntmps167
  go_wp2_with (first
    | (go_at_call 169; (with_reducible refine C.out.mono ?_); rintro ed w1 ⟨rfl, rfl⟩)
    | fail)
  go_ret
  exact ⟨rfl, rfl⟩
end Go.Proofs
