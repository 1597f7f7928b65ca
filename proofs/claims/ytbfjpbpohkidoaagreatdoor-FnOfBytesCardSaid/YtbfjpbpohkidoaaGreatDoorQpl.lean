/-
  Plain laws on ranges of numbers: the numbers of ranges, and the ranges that are told of numbers in order.
  Plain laws on words of 64 bits: the next number of a set from a number on.
  Plain laws on bytes: numbers of 16, 32 and 64 bits, the lowest byte first; lists of them; words of 64 bits and their bits.
  Plain laws on the parts of a set: its numbers by their upper 16 bits.
  Plain laws on the bodies of the published format: the numbers that each kind of body holds.
  Plain laws on lists of numbers and on sets of numbers below 65536: no program, no memory.
  Plain law: ranges in order of their beginnings, merged where they touch.
  Plain laws for an insertion sort by swaps: the list as P ++ x :: S ++ T, x on its way down.
-/
import Derived.Lib.TrailingZeros
namespace Go.Roar

/-- How many numbers ranges have, both ends within. -/
def rgCard (rs : List (Nat × Nat)) : Nat := (rs.map fun r => r.2 - r.1 + 1).sum
/-- The numbers of ranges, both ends within. -/
def rgNums (rs : List (Nat × Nat)) : List Nat := rs.flatMap fun r => List.range' r.1 (r.2 - r.1 + 1)
/-- Ranges in order, none empty, a number missing between each two, all below n. -/
def RgOK (n : Nat) (rs : List (Nat × Nat)) : Prop := (∀ r ∈ rs, r.1 ≤ r.2 ∧ r.2 < n) ∧ rs.Pairwise fun a b => a.2 + 1 < b.1

@[simp] theorem rgNums_nil : rgNums [] = [] := rfl
theorem rgNums_cons (r : Nat × Nat) (l : List (Nat × Nat)) : rgNums (r :: l) = List.range' r.1 (r.2 - r.1 + 1) ++ rgNums l := by simp [rgNums]
theorem rgNums_append (a b : List (Nat × Nat)) : rgNums (a ++ b) = rgNums a ++ rgNums b := by simp [rgNums]
theorem rgCard_cons (r : Nat × Nat) (l : List (Nat × Nat)) : rgCard (r :: l) = (r.2 - r.1 + 1) + rgCard l := by simp [rgCard]
theorem rgCard_append (a b : List (Nat × Nat)) : rgCard (a ++ b) = rgCard a + rgCard b := by simp [rgCard]
theorem rgNums_length (rs : List (Nat × Nat)) : (rgNums rs).length = rgCard rs := by
  induction rs with
  | nil => rfl
  | cons r l ih => rw [rgNums_cons, rgCard_cons, List.length_append, ih, List.length_range']
theorem RgOK.nil (n : Nat) : RgOK n [] := ⟨by simp, List.Pairwise.nil⟩
theorem RgOK.tail {n : Nat} {r : Nat × Nat} {l : List (Nat × Nat)} (h : RgOK n (r :: l)) : RgOK n l :=
  ⟨fun x hx => h.1 x (List.mem_cons_of_mem _ hx), (List.pairwise_cons.1 h.2).2⟩
theorem RgOK.mono {n m : Nat} {l : List (Nat × Nat)} (h : RgOK n l) (hm : n ≤ m) : RgOK m l :=
  ⟨fun r hr => by have := h.1 r hr; omega, h.2⟩
theorem rgNums_mem {rs : List (Nat × Nat)} (h : ∀ r ∈ rs, r.1 ≤ r.2) (x : Nat) : x ∈ rgNums rs ↔ ∃ r ∈ rs, r.1 ≤ x ∧ x ≤ r.2 := by
  unfold rgNums
  simp only [List.mem_flatMap, List.mem_range'_1]
  constructor
  · rintro ⟨r, hr, h1, h2⟩
    have := h r hr
    exact ⟨r, hr, h1, by omega⟩
  · rintro ⟨r, hr, h1, h2⟩
    have := h r hr
    exact ⟨r, hr, h1, by omega⟩
theorem rgNums_rising {n : Nat} : ∀ {rs : List (Nat × Nat)}, RgOK n rs → (rgNums rs).Pairwise (· < ·)
  | [], _ => List.Pairwise.nil
  | r :: l, h => by
    rw [rgNums_cons]
    refine List.pairwise_append.2 ⟨List.pairwise_lt_range', rgNums_rising h.tail, ?_⟩
    intro x hx y hy
    rw [List.mem_range'_1] at hx
    obtain ⟨q, hq, h1, _⟩ := (rgNums_mem (fun q hq => (h.tail.1 q hq).1) y).1 hy
    have := (List.pairwise_cons.1 h.2).1 q hq
    have := h.1 r (by simp)
    omega
theorem rgNums_lt {n : Nat} {rs : List (Nat × Nat)} (h : RgOK n rs) : ∀ x ∈ rgNums rs, x < n := by
  intro x hx
  obtain ⟨q, hq, h1, h2⟩ := (rgNums_mem (fun q hq => (h.1 q hq).1) x).1 hx
  have := h.1 q hq
  omega

/-- What is told of one number more: the last range grows by it, or it begins one. -/
def tell (out : List (Nat × Nat)) (n : Nat) : List (Nat × Nat) :=
  match out.getLast? with
  | some (a, b) => if b + 1 = n then out.dropLast ++ [(a, n)] else out ++ [(n, n)]
  | none => [(n, n)]

theorem tell_nil (n : Nat) : tell [] n = [(n, n)] := rfl
theorem tell_on (l : List (Nat × Nat)) (a b : Nat) : tell (l ++ [(a, b)]) (b + 1) = l ++ [(a, b + 1)] := by simp [tell]
theorem tell_new (l : List (Nat × Nat)) (a b n : Nat) (h : b + 1 ≠ n) : tell (l ++ [(a, b)]) n = l ++ [(a, b)] ++ [(n, n)] := by simp [tell, h]

theorem tell_run (l : List (Nat × Nat)) (a b k : Nat) : (List.range' (b + 1) k).foldl tell (l ++ [(a, b)]) = l ++ [(a, b + k)] := by
  induction k generalizing b with
  | zero => simp
  | succ k ih => rw [List.range'_succ, List.foldl_cons, tell_on, ih]; congr 3; omega

theorem tell_range (l : List (Nat × Nat)) (r : Nat × Nat) (hr : r.1 ≤ r.2) (hl : ∀ x ∈ l, x.2 + 1 < r.1) : (List.range' r.1 (r.2 - r.1 + 1)).foldl tell l = l ++ [r] := by
  rw [List.range'_succ, List.foldl_cons]
  have h1 : tell l r.1 = l ++ [(r.1, r.1)] := by
    rcases List.eq_nil_or_concat l with rfl | ⟨m, ⟨a, b⟩, rfl⟩
    · rfl
    · rw [List.concat_eq_append] at *
      rw [tell_new _ _ _ _ (by have := hl (a, b) (by simp); simp at this; omega)]
  rw [h1, tell_run]
  congr 2
  ext <;> simp
  omega

theorem tell_all {n : Nat} : ∀ (rs l : List (Nat × Nat)), RgOK n rs → (∀ x ∈ l, ∀ r ∈ rs, x.2 + 1 < r.1) → (rgNums rs).foldl tell l = l ++ rs
  | [], l, _, _ => by simp
  | r :: rs, l, h, hl => by
    rw [rgNums_cons, List.foldl_append, tell_range l r (h.1 r (by simp)).1 (fun x hx => hl x hx r (by simp)), tell_all rs (l ++ [r]) h.tail ?_]
    · simp
    · intro x hx q hq
      rcases List.mem_append.1 hx with hx | hx
      · exact hl x hx q (List.mem_cons_of_mem _ hq)
      · simp at hx; subst hx; exact (List.pairwise_cons.1 h.2).1 q hq

/-- Of all numbers of ranges just these ranges are told. -/
theorem tell_back {n : Nat} {rs : List (Nat × Nat)} (h : RgOK n rs) : (rgNums rs).foldl tell [] = rs := by
  simpa using tell_all rs [] h (by simp)

theorem tell_length (l : List (Nat × Nat)) (n : Nat) : (tell l n).length ≤ l.length + 1 := by
  rcases List.eq_nil_or_concat l with rfl | ⟨m, ⟨a, b⟩, rfl⟩
  · simp [tell]
  · rw [List.concat_eq_append]
    by_cases h : b + 1 = n
    · subst h; rw [tell_on]; simp
    · rw [tell_new _ _ _ _ h]; simp
theorem tells_length (ns : List Nat) (l : List (Nat × Nat)) : (ns.foldl tell l).length ≤ l.length + ns.length := by
  induction ns generalizing l with
  | nil => simp
  | cons n ns ih =>
    have := ih (tell l n)
    have := tell_length l n
    simp only [List.foldl_cons, List.length_cons]; omega
end Go.Roar

namespace Go.Roar

/-- The numbers of a set from i on, below 65536. -/
def restFrom (f : Nat → Bool) (i : Nat) : List Nat := (List.range' i (65536 - i)).filter f
/-- Whether a number's bit is set in words. -/
def bitOf (ws : List Nat) (x : Nat) : Bool := (ws.getD (x / 64) 0).testBit (x % 64)

theorem restFrom_step (f : Nat → Bool) (i : Nat) (hi : i < 65536) : restFrom f i = if f i then i :: restFrom f (i + 1) else restFrom f (i + 1) := by
  unfold restFrom
  rw [show 65536 - i = (65536 - (i + 1)) + 1 by omega, List.range'_succ, List.filter_cons]
theorem restFrom_end (f : Nat → Bool) (i : Nat) (hi : 65536 ≤ i) : restFrom f i = [] := by
  unfold restFrom
  rw [show 65536 - i = 0 by omega]; rfl
theorem restFrom_skip (f : Nat → Bool) (i k : Nat) (hk : k ≤ 65536) (hik : i ≤ k) (h : ∀ j, i ≤ j → j < k → f j = false) : restFrom f i = restFrom f k := by
  obtain ⟨d, rfl⟩ : ∃ d, k = i + d := ⟨k - i, by omega⟩
  clear hik
  induction d with
  | zero => rfl
  | succ d ih =>
    rw [ih (by omega) (fun j h1 h2 => h j h1 (by omega)), restFrom_step f (i + d) (by omega), h (i + d) (by omega) (by omega)]
    rfl
theorem restFrom_first (f : Nat → Bool) (i k : Nat) (hk : k < 65536) (hik : i ≤ k) (h : ∀ j, i ≤ j → j < k → f j = false) (hf : f k = true) : restFrom f i = k :: restFrom f (k + 1) := by
  rw [restFrom_skip f i k (by omega) hik h, restFrom_step f k hk, hf]; rfl
theorem restFrom_none (f : Nat → Bool) (i : Nat) (h : ∀ j, i ≤ j → j < 65536 → f j = false) : restFrom f i = [] := by
  rcases Nat.lt_or_ge i 65536 with hi | hi
  · rw [restFrom_skip f i 65536 (Nat.le_refl _) (by omega) h, restFrom_end f _ (Nat.le_refl _)]
  · exact restFrom_end f i hi

theorem ctz_bits (v : Nat) (h0 : 0 < v) (h : v < 18446744073709551616) : Lib.ctz 64 v < 64 ∧ v.testBit (Lib.ctz 64 v) = true ∧ ∀ j, j < Lib.ctz 64 v → v.testBit j = false := by
  have hc : Lib.ctz 64 v = Lib.ctzFrom 64 v := by unfold Lib.ctz; rw [if_neg (by omega)]
  obtain ⟨m, hm, hk⟩ := Lib.ctzFrom_spec 64 v h0 (by simpa using h)
  rw [hc]
  generalize Lib.ctzFrom 64 v = k at *
  subst hm
  refine ⟨hk, ?_, fun j hj => ?_⟩
  · rw [Nat.mul_comm, Nat.testBit_mul_two_pow]; simp [Nat.testBit_zero]
  · rw [Nat.mul_comm, Nat.testBit_mul_two_pow]; simp; omega

/-- The first number from i on, where its word has one. -/
theorem bitOf_here (ws : List Nat) (i w : Nat) (hi : i < 65536) (hw : ws[i / 64]? = some w) (hlt : w < 18446744073709551616) (h0 : w / 2 ^ (i % 64) ≠ 0) :
    i + Lib.ctz 64 (w / 2 ^ (i % 64)) < 65536 ∧ restFrom (bitOf ws) i = (i + Lib.ctz 64 (w / 2 ^ (i % 64))) :: restFrom (bitOf ws) (i + Lib.ctz 64 (w / 2 ^ (i % 64)) + 1) := by
  have hv : w / 2 ^ (i % 64) < 18446744073709551616 := Nat.lt_of_le_of_lt (Nat.div_le_self _ _) hlt
  obtain ⟨h1, h2, h3⟩ := ctz_bits _ (Nat.pos_of_ne_zero h0) hv
  have hb : ∀ j, (w / 2 ^ (i % 64)).testBit j = w.testBit (i % 64 + j) := fun j => by
    rw [← Nat.shiftRight_eq_div_pow, Nat.testBit_shiftRight]
  have hmax : i % 64 + Lib.ctz 64 (w / 2 ^ (i % 64)) < 64 := by
    rcases Nat.lt_or_ge (i % 64 + Lib.ctz 64 (w / 2 ^ (i % 64))) 64 with h | h
    · exact h
    · rw [hb] at h2
      have : w.testBit (i % 64 + Lib.ctz 64 (w / 2 ^ (i % 64))) = false := Nat.testBit_lt_two_pow (Nat.lt_of_lt_of_le hlt (by
        calc 18446744073709551616 = 2 ^ 64 := by decide
          _ ≤ _ := Nat.pow_le_pow_right (by decide) h))
      rw [this] at h2; cases h2
  generalize Lib.ctz 64 (w / 2 ^ (i % 64)) = c at *
  have hin : ∀ j, j ≤ c → (i + j) / 64 = i / 64 ∧ (i + j) % 64 = i % 64 + j := fun j hj => by omega
  have hget : ∀ j, j ≤ c → bitOf ws (i + j) = w.testBit (i % 64 + j) := fun j hj => by
    unfold bitOf
    rw [(hin j hj).1, (hin j hj).2, List.getD_eq_getElem?_getD, hw]; rfl
  refine ⟨by omega, restFrom_first _ _ _ (by omega) (by omega) (fun j hj1 hj2 => ?_) ?_⟩
  · obtain ⟨d, rfl⟩ : ∃ d, j = i + d := ⟨j - i, by omega⟩
    rw [hget d (by omega), ← hb]; exact h3 d (by omega)
  · rw [hget c (Nat.le_refl _), ← hb]; exact h2

/-- None from i on in its word. -/
theorem bitOf_gone (ws : List Nat) (i w : Nat) (hw : ws[i / 64]? = some w) (h0 : w / 2 ^ (i % 64) = 0) : ∀ j, i ≤ j → j < 64 * (i / 64 + 1) → bitOf ws j = false := by
  intro j h1 h2
  have e1 : j / 64 = i / 64 := by omega
  unfold bitOf
  rw [e1, List.getD_eq_getElem?_getD, hw]
  show w.testBit (j % 64) = false
  have : j % 64 = i % 64 + (j - i) := by omega
  rw [this, ← Nat.testBit_shiftRight, Nat.shiftRight_eq_div_pow, h0]; simp
theorem bitOf_zero (ws : List Nat) (x : Nat) (hw : ws[x]? = some 0) : ∀ j, 64 * x ≤ j → j < 64 * (x + 1) → bitOf ws j = false := by
  intro j h1 h2
  have e1 : j / 64 = x := by omega
  unfold bitOf
  rw [e1, List.getD_eq_getElem?_getD, hw]; simp
theorem bitOf_out (ws : List Nat) (n : Nat) (hl : ws.length = n) (j : Nat) (hj : 64 * n ≤ j) : bitOf ws j = false := by
  unfold bitOf
  rw [List.getD_eq_getElem?_getD, List.getElem?_eq_none (by omega)]; simp
end Go.Roar

namespace Go.Roar

/-- The number that bytes spell, the lowest first. -/
def leN : List Nat → Nat
  | [] => 0
  | b :: r => b + 256 * leN r
def enc16 (x : Nat) : List Nat := [x % 256, x / 256]
def enc32 (x : Nat) : List Nat := [x % 256, x / 256 % 256, x / 65536 % 256, x / 16777216]

theorem leN_enc16 (x : Nat) : leN (enc16 x) = x := by simp [leN, enc16]; omega
theorem leN_enc32 (x : Nat) : leN (enc32 x) = x := by simp [leN, enc32]; omega
@[simp] theorem enc16_length (x : Nat) : (enc16 x).length = 2 := rfl
@[simp] theorem enc32_length (x : Nat) : (enc32 x).length = 4 := rfl
theorem enc16_byte {x : Nat} (h : x < 65536) : ∀ b ∈ enc16 x, b < 256 := by
  intro b hb; simp [enc16] at hb; omega
theorem enc32_byte {x : Nat} (h : x < 4294967296) : ∀ b ∈ enc32 x, b < 256 := by
  intro b hb; simp [enc32] at hb; omega

theorem leN_lt : ∀ (l : List Nat), (∀ b ∈ l, b < 256) → leN l < 256 ^ l.length
  | [], _ => by simp [leN]
  | b :: r, h => by
    have h1 := h b (by simp)
    have h2 := leN_lt r (fun x hx => h x (by simp [hx]))
    simp only [leN, List.length_cons, Nat.pow_succ]
    omega

/-- Bytes as lists of numbers of k bytes each. -/
def decK (k : Nat) (bs : List Nat) : List Nat := (List.range (bs.length / k)).map fun i => leN ((bs.drop (k * i)).take k)

@[simp] theorem decK_length (k : Nat) (bs : List Nat) : (decK k bs).length = bs.length / k := by simp [decK]
theorem decK_at {k : Nat} {bs : List Nat} {i : Nat} (h : i < bs.length / k) : (decK k bs)[i]? = some (leN ((bs.drop (k * i)).take k)) := by
  simp [decK, h]
theorem decK_lt {k : Nat} {bs : List Nat} (h : ∀ b ∈ bs, b < 256) : ∀ x ∈ decK k bs, x < 256 ^ k := by
  intro x hx
  simp only [decK, List.mem_map, List.mem_range] at hx
  obtain ⟨i, _, rfl⟩ := hx
  have := leN_lt ((bs.drop (k * i)).take k) (fun b hb => h b (List.mem_of_mem_drop (List.mem_of_mem_take hb)))
  refine Nat.lt_of_lt_of_le this (Nat.pow_le_pow_right (by omega) ?_)
  simp; omega

theorem flatMap_length {α β : Type} (f : α → List β) (k : Nat) (hf : ∀ a, (f a).length = k) (l : List α) : (l.flatMap f).length = k * l.length := by
  induction l with
  | nil => simp
  | cons a l ih => rw [List.flatMap_cons, List.length_append, ih, hf, List.length_cons, Nat.mul_succ]; omega
theorem flatMap_drop {α β : Type} (f : α → List β) (k : Nat) (hf : ∀ a, (f a).length = k) (l : List α) (i : Nat) : (l.flatMap f).drop (k * i) = (l.drop i).flatMap f := by
  induction l generalizing i with
  | nil => simp
  | cons a l ih =>
    cases i with
    | zero => simp
    | succ i =>
      rw [List.flatMap_cons, Nat.mul_succ, Nat.add_comm, ← List.drop_drop, List.drop_left' (hf a), ih]; rfl
theorem decK_enc {k : Nat} (hk : 0 < k) (f : Nat → List Nat) (hf : ∀ a, (f a).length = k) (hd : ∀ a, leN (f a) = a) (l : List Nat) : decK k (l.flatMap f) = l := by
  apply List.ext_getElem?
  intro i
  have hl := flatMap_length f k hf l
  rcases Nat.lt_or_ge i l.length with h | h
  · rw [decK_at (by rw [hl, Nat.mul_div_cancel_left _ hk]; exact h), flatMap_drop f k hf, List.drop_eq_getElem_cons h, List.flatMap_cons, List.take_left' (hf _), hd, List.getElem?_eq_getElem h]
  · rw [List.getElem?_eq_none (by rw [decK_length, hl, Nat.mul_div_cancel_left _ hk]; exact h), List.getElem?_eq_none h]
theorem dec16_enc (l : List Nat) : decK 2 (l.flatMap enc16) = l := decK_enc (by decide) enc16 enc16_length leN_enc16 l
theorem dec32_enc (l : List Nat) : decK 4 (l.flatMap enc32) = l := decK_enc (by decide) enc32 enc32_length leN_enc32 l

/-- Bits of what bytes spell. -/
theorem leN_bit : ∀ (l : List Nat) (j : Nat), (∀ b ∈ l, b < 256) → (leN l).testBit j = (l.getD (j / 8) 0).testBit (j % 8)
  | [], j, _ => by simp [leN]
  | b :: r, j, h => by
    have h1 : b < 2 ^ 8 := h b (by simp)
    have h2 := leN_bit r (j - 8) (fun x hx => h x (by simp [hx]))
    have e : leN (b :: r) = 2 ^ 8 * leN r + b := by simp [leN]; omega
    rw [e]
    rcases Nat.lt_or_ge j 8 with hj | hj
    · rw [Nat.testBit_two_pow_mul_add _ h1, if_pos hj, Nat.div_eq_of_lt hj, Nat.mod_eq_of_lt hj]; rfl
    · rw [Nat.testBit_two_pow_mul_add _ h1, if_neg (by omega), h2]
      have a1 : j / 8 = (j - 8) / 8 + 1 := by omega
      have a2 : j % 8 = (j - 8) % 8 := by omega
      rw [a1, a2, List.getD_cons_succ]

/-- The bits of words that bytes spell are the bytes' bits. -/
theorem dec64_bit (bs : List Nat) (hb : ∀ b ∈ bs, b < 256) (hl : bs.length % 8 = 0) (x : Nat) : ((decK 8 bs).getD (x / 64) 0).testBit (x % 64) = (bs.getD (x / 8) 0).testBit (x % 8) := by
  rcases Nat.lt_or_ge (x / 64) (bs.length / 8) with h | h
  · rw [List.getD_eq_getElem?_getD, decK_at h, Option.getD_some, leN_bit _ _ (fun b hx => hb b (List.mem_of_mem_drop (List.mem_of_mem_take hx)))]
    have a1 : x % 64 / 8 < 8 := by omega
    have a2 : 8 * (x / 64) + x % 64 / 8 = x / 8 := by omega
    have a3 : x % 64 % 8 = x % 8 := by omega
    rw [List.getD_eq_getElem?_getD, List.getElem?_take_of_lt a1, List.getElem?_drop, a2, a3, List.getD_eq_getElem?_getD]
  · rw [List.getD_eq_getElem?_getD, List.getElem?_eq_none (by rw [decK_length]; exact h), List.getD_eq_getElem?_getD, List.getElem?_eq_none (by omega)]; simp
end Go.Roar

namespace Go.Roar

/-- One range's part with the upper bits k. -/
def pieceAt (r : Nat × Nat) (k : Nat) : Nat × (Nat × Nat) := (k, (r.1 - k * 65536, min (r.2 - k * 65536) 65535))
def pieces (r : Nat × Nat) : List (Nat × (Nat × Nat)) := (List.range' (r.1 / 65536) (r.2 / 65536 - r.1 / 65536 + 1)).map (pieceAt r)
/-- A part more, or a range more of the last part. -/
def addPiece (out : List (Nat × List (Nat × Nat))) (p : Nat × (Nat × Nat)) : List (Nat × List (Nat × Nat)) :=
  match out.getLast? with
  | some (k, l) => if k = p.1 then out.dropLast ++ [(k, l ++ [p.2])] else out ++ [(p.1, [p.2])]
  | none => [(p.1, [p.2])]
def partsOf (s : List (Nat × Nat)) : List (Nat × List (Nat × Nat)) := (s.flatMap pieces).foldl addPiece []
/-- The numbers of parts. -/
def partNums (ps : List (Nat × List (Nat × Nat))) : List Nat := ps.flatMap fun p => (rgNums p.2).map (p.1 * 65536 + ·)
def pieceNums (ps : List (Nat × (Nat × Nat))) : List Nat := ps.flatMap fun p => (List.range' p.2.1 (p.2.2 - p.2.1 + 1)).map (p.1 * 65536 + ·)
/-- Parts in order: rising upper bits, each part's ranges in order, none empty. -/
def PartsOK (ps : List (Nat × List (Nat × Nat))) : Prop := (ps.Pairwise fun a b => a.1 < b.1) ∧ ∀ p ∈ ps, p.1 < 65536 ∧ p.2 ≠ [] ∧ RgOK 65536 p.2
def PiecesOK (ps : List (Nat × (Nat × Nat))) : Prop := (ps.Pairwise fun a b => a.1 < b.1 ∨ (a.1 = b.1 ∧ a.2.2 + 1 < b.2.1)) ∧ ∀ p ∈ ps, p.1 < 65536 ∧ p.2.1 ≤ p.2.2 ∧ p.2.2 < 65536

theorem pieces_mem {r : Nat × Nat} {p : Nat × (Nat × Nat)} : p ∈ pieces r ↔ ∃ k, r.1 / 65536 ≤ k ∧ k < r.1 / 65536 + (r.2 / 65536 - r.1 / 65536 + 1) ∧ pieceAt r k = p := by
  simp [pieces, List.mem_map, List.mem_range'_1, and_assoc]

theorem pieces_ok {r : Nat × Nat} (h : r.1 ≤ r.2) (hn : r.2 < 4294967296) : ∀ p ∈ pieces r, p.1 < 65536 ∧ p.2.1 ≤ p.2.2 ∧ p.2.2 < 65536 := by
  intro p hp
  obtain ⟨k, h1, h2, rfl⟩ := pieces_mem.1 hp
  simp only [pieceAt]
  omega

theorem pieces_sorted (r : Nat × Nat) : (pieces r).Pairwise fun a b => a.1 < b.1 := by
  unfold pieces
  rw [List.pairwise_map]
  exact (List.pairwise_lt_range' (s := r.1 / 65536) (n := r.2 / 65536 - r.1 / 65536 + 1))

theorem pieces_all {s : List (Nat × Nat)} (h : RgOK 4294967296 s) : PiecesOK (s.flatMap pieces) := by
  constructor
  · induction s with
    | nil => exact List.Pairwise.nil
    | cons r l ih =>
      rw [List.flatMap_cons, List.pairwise_append]
      refine ⟨(pieces_sorted r).imp fun hab => .inl hab, ih h.tail, ?_⟩
      intro a ha b hb
      obtain ⟨q, hq, hb⟩ := List.mem_flatMap.1 hb
      have h1 := (List.pairwise_cons.1 h.2).1 q hq
      have h2 := h.1 r (by simp)
      have h3 := h.1 q (by simp [hq])
      obtain ⟨k, k1, k2, rfl⟩ := pieces_mem.1 ha
      obtain ⟨j, j1, j2, rfl⟩ := pieces_mem.1 hb
      simp only [pieceAt]
      omega
  · intro p hp
    obtain ⟨r, hr, hp⟩ := List.mem_flatMap.1 hp
    have := h.1 r hr
    exact pieces_ok this.1 this.2 p hp

theorem pieceNums_append (a b : List (Nat × (Nat × Nat))) : pieceNums (a ++ b) = pieceNums a ++ pieceNums b := by simp [pieceNums]
theorem range_cut (a n m : Nat) : List.range' a (n + m) = List.range' a n ++ List.range' (a + n) m := by
  exact List.range'_append_1.symm

theorem range_eq {a b n m : Nat} (h : a = b) (h' : n = m) : List.range' a n = List.range' b m := by rw [h, h']
theorem range_off (b a n c m : Nat) (h : b + a = c) (h' : n = m) : (List.range' a n).map (b + ·) = List.range' c m := by
  rw [List.map_add_range', h, h']

theorem pieceNums_from (r : Nat × Nat) (c : Nat) : ∀ k K lo, K = k * 65536 → lo = max r.1 K → r.1 < K + 65536 → r.1 ≤ r.2 → K ≤ r.2 → r.2 / 65536 = k + c →
    pieceNums ((List.range' k (c + 1)).map (pieceAt r)) = List.range' lo (r.2 - lo + 1) := by
  induction c with
  | zero =>
    intro k K lo hK hlo h1 h2 h3 h4
    show pieceNums [pieceAt r k] = _
    simp only [pieceNums, pieceAt, List.flatMap_cons, List.flatMap_nil, List.append_nil]
    rw [← hK]
    exact range_off _ _ _ _ _ (by omega) (by omega)
  | succ c ih =>
    intro k K lo hK hlo h1 h2 h3 h4
    have f1 : K + 65536 = (k + 1) * 65536 := by rw [Nat.succ_mul, hK]
    have f2 : K + 65536 ≤ r.2 := by omega
    have := ih (k + 1) (K + 65536) (K + 65536) f1 (by omega) (by omega) h2 f2 (by omega)
    have e0 : pieceNums ((List.range' k (c + 1 + 1)).map (pieceAt r)) = pieceNums [pieceAt r k] ++ pieceNums ((List.range' (k + 1) (c + 1)).map (pieceAt r)) := by
      rw [← pieceNums_append, List.range'_succ]; rfl
    rw [e0, this]
    have e1 : pieceNums [pieceAt r k] = List.range' lo (K + 65536 - lo) := by
      simp only [pieceNums, pieceAt, List.flatMap_cons, List.flatMap_nil, List.append_nil]
      rw [← hK]
      exact range_off _ _ _ _ _ (by omega) (by omega)
    rw [e1, show r.2 - lo + 1 = (K + 65536 - lo) + (r.2 - (K + 65536) + 1) by omega]
    have e2 := range_cut lo (K + 65536 - lo) (r.2 - (K + 65536) + 1)
    rw [show lo + (K + 65536 - lo) = K + 65536 by omega] at e2
    exact e2.symm

theorem pieces_nums {r : Nat × Nat} (h : r.1 ≤ r.2) : pieceNums (pieces r) = List.range' r.1 (r.2 - r.1 + 1) := by
  unfold pieces
  exact pieceNums_from r (r.2 / 65536 - r.1 / 65536) (r.1 / 65536) _ r.1 rfl (by omega) (by omega) h (by omega) (by omega)

theorem partNums_append (a b : List (Nat × List (Nat × Nat))) : partNums (a ++ b) = partNums a ++ partNums b := by simp [partNums]

theorem pieces_back {s : List (Nat × Nat)} (h : ∀ r ∈ s, r.1 ≤ r.2) : pieceNums (s.flatMap pieces) = rgNums s := by
  induction s with
  | nil => rfl
  | cons r l ih =>
    rw [List.flatMap_cons, pieceNums_append, rgNums_cons, ih (fun x hx => h x (by simp [hx])), pieces_nums (h r (by simp))]

theorem addPiece_all : ∀ (ps : List (Nat × (Nat × Nat))) (out : List (Nat × List (Nat × Nat))), PiecesOK ps → PartsOK out →
    (∀ a ∈ out, ∀ b ∈ ps, a.1 < b.1 ∨ (a.1 = b.1 ∧ ∀ r ∈ a.2, r.2 + 1 < b.2.1)) → PartsOK (ps.foldl addPiece out) ∧ partNums (ps.foldl addPiece out) = partNums out ++ pieceNums ps
  | [], out, _, ho, _ => ⟨ho, by simp [pieceNums]⟩
  | p :: ps, out, hp, ho, hb => by
    have hp1 := hp.2 p (by simp)
    have hp2 := List.pairwise_cons.1 hp.1
    have hps : PiecesOK ps := ⟨hp2.2, fun q hq => hp.2 q (by simp [hq])⟩
    have hone : RgOK 65536 [p.2] := ⟨by intro r hr; simp at hr; subst hr; exact hp1.2, by simp⟩
    have step : ∀ out', addPiece out p = out' → PartsOK out' → (∀ a ∈ out', ∀ b ∈ ps, a.1 < b.1 ∨ (a.1 = b.1 ∧ ∀ r ∈ a.2, r.2 + 1 < b.2.1)) → partNums out' = partNums out ++ pieceNums [p] →
        PartsOK ((p :: ps).foldl addPiece out) ∧ partNums ((p :: ps).foldl addPiece out) = partNums out ++ pieceNums (p :: ps) := by
      intro out' e h1 h2 h3
      rw [List.foldl_cons, e]
      obtain ⟨r1, r2⟩ := addPiece_all ps out' hps h1 h2
      refine ⟨r1, ?_⟩
      rw [r2, h3, List.append_assoc, ← pieceNums_append]; rfl
    have fresh : (∀ a ∈ out, a.1 < p.1) → PartsOK (out ++ [(p.1, [p.2])]) := by
      intro hlt
      refine ⟨List.pairwise_append.2 ⟨ho.1, by simp, ?_⟩, ?_⟩
      · intro a ha b hb'; simp at hb'; subst hb'; exact hlt a ha
      · intro q hq
        rcases List.mem_append.1 hq with hq | hq
        · exact ho.2 q hq
        · simp at hq; subst hq; exact ⟨hp1.1, by simp, hone⟩
    have freshB : ∀ a ∈ out ++ [(p.1, [p.2])], ∀ b ∈ ps, a.1 < b.1 ∨ (a.1 = b.1 ∧ ∀ r ∈ a.2, r.2 + 1 < b.2.1) := by
      intro a ha b hb'
      rcases List.mem_append.1 ha with ha | ha
      · exact hb a ha b (by simp [hb'])
      · simp at ha; subst ha
        rcases hp2.1 b hb' with h | ⟨h, h'⟩
        · exact .inl h
        · exact .inr ⟨h, by intro r hr; simp at hr; subst hr; exact h'⟩
    rcases List.eq_nil_or_concat out with rfl | ⟨o, ⟨k, l⟩, rfl⟩
    · exact step _ rfl (by simpa [addPiece] using fresh (by simp)) (by simpa [addPiece] using freshB) (by simp [addPiece, partNums, pieceNums, rgNums_cons])
    · rw [List.concat_eq_append] at *
      have hk := hb (k, l) (by simp) p (by simp)
      by_cases hkp : k = p.1
      · subst hkp
        obtain ⟨_, hl⟩ : p.1 = p.1 ∧ ∀ r ∈ l, r.2 + 1 < p.2.1 := hk.resolve_left (by simp)
        have hokl := ho.2 (p.1, l) (by simp)
        refine step (o ++ [(p.1, l ++ [p.2])]) (by simp [addPiece]) ⟨?_, ?_⟩ ?_ ?_
        · have := ho.1
          rw [List.pairwise_append] at this ⊢
          refine ⟨this.1, by simp, ?_⟩
          intro a ha b hb'
          simp at hb'; subst hb'
          exact this.2.2 a ha (p.1, l) (by simp)
        · intro q hq
          rcases List.mem_append.1 hq with hq | hq
          · exact ho.2 q (by simp [hq])
          · simp at hq; subst hq
            refine ⟨hp1.1, by simp, ?_, List.pairwise_append.2 ⟨hokl.2.2.2, by simp, ?_⟩⟩
            · intro r hr
              rcases List.mem_append.1 hr with hr | hr
              · exact hokl.2.2.1 r hr
              · exact hone.1 r hr
            · intro a ha b hb'; simp at hb'; subst hb'; exact hl a ha
        · intro a ha b hb'
          rcases List.mem_append.1 ha with ha | ha
          · exact hb a (by simp [ha]) b (by simp [hb'])
          · simp at ha; subst ha
            rcases hp2.1 b hb' with h | ⟨h, h'⟩
            · exact .inl h
            · refine .inr ⟨h, ?_⟩
              intro r hr
              rcases List.mem_append.1 hr with hr | hr
              · have := hl r hr; omega
              · simp at hr; subst hr; exact h'
        · simp [partNums, pieceNums, rgNums_append, rgNums_cons]
      · refine step (o ++ [(k, l)] ++ [(p.1, [p.2])]) (by simp [addPiece, hkp]) (fresh ?_) freshB (by simp [partNums, pieceNums, rgNums_cons])
        intro a ha
        rcases hb a ha p (by simp) with h | ⟨h, _⟩
        · exact h
        · exfalso
          rcases List.mem_append.1 ha with ha | ha
          · have := (List.pairwise_append.1 ho.1).2.2 a ha (k, l) (by simp)
            rcases hk with hk | ⟨hk, _⟩ <;> simp at * <;> omega
          · simp at ha; subst ha; exact hkp h

theorem partsOf_ok {s : List (Nat × Nat)} (h : RgOK 4294967296 s) : PartsOK (partsOf s) ∧ partNums (partsOf s) = rgNums s := by
  have := addPiece_all (s.flatMap pieces) [] (pieces_all h) ⟨List.Pairwise.nil, by simp⟩ (by simp)
  refine ⟨this.1, ?_⟩
  rw [partsOf, this.2, pieces_back (fun r hr => (h.1 r hr).1)]; simp [partNums]
end Go.Roar

namespace Go.Roar

/-- A bit more. -/
def setBit (bs : List Nat) (x : Nat) : List Nat := bs.set (x / 8) (bs.getD (x / 8) 0 ||| 2 ^ (x % 8))
def bitBytes (l : List Nat) : List Nat := l.foldl setBit (List.replicate 8192 0)
/-- Runs as numbers: each one's first number and how many are behind it. -/
def runNums (rs : List (Nat × Nat)) : List Nat := rs.flatMap fun r => [r.1, r.2 - r.1]
/-- The body of a part, by its kind: a list, bits, runs. -/
def bodyOf (rs : List (Nat × Nat)) (k : Nat) : List Nat :=
  if k = 0 then (rgNums rs).flatMap enc16 else if k = 1 then bitBytes (rgNums rs) else enc16 rs.length ++ (runNums rs).flatMap enc16

@[simp] theorem setBit_length (bs : List Nat) (x : Nat) : (setBit bs x).length = bs.length := by simp [setBit]
theorem setBits_length (l bs : List Nat) : (l.foldl setBit bs).length = bs.length := by
  induction l generalizing bs with
  | nil => rfl
  | cons x l ih => rw [List.foldl_cons, ih, setBit_length]
@[simp] theorem bitBytes_length (l : List Nat) : (bitBytes l).length = 8192 := by unfold bitBytes; rw [setBits_length, List.length_replicate]

theorem getD_le {bs : List Nat} (h : ∀ b ∈ bs, b < 256) (i : Nat) : bs.getD i 0 < 256 := by
  rw [List.getD_eq_getElem?_getD]
  cases hq : bs[i]? with
  | none => simp
  | some b => simpa using h b (List.mem_of_getElem? hq)
theorem setBit_byte {bs : List Nat} (h : ∀ b ∈ bs, b < 256) (x : Nat) : ∀ b ∈ setBit bs x, b < 256 := by
  intro b hb
  rcases List.mem_or_eq_of_mem_set hb with hb | rfl
  · exact h b hb
  · have h1 : bs.getD (x / 8) 0 < 2 ^ 8 := getD_le h _
    have h2 : 2 ^ (x % 8) < 2 ^ 8 := Nat.pow_lt_pow_right (by omega) (by omega)
    exact Nat.or_lt_two_pow h1 h2
theorem setBits_byte (l : List Nat) {bs : List Nat} (h : ∀ b ∈ bs, b < 256) : ∀ b ∈ l.foldl setBit bs, b < 256 := by
  induction l generalizing bs with
  | nil => exact h
  | cons x l ih => exact ih (setBit_byte h x)
theorem bitBytes_byte (l : List Nat) : ∀ b ∈ bitBytes l, b < 256 := setBits_byte l (by intro b hb; have := (List.mem_replicate.1 hb).2; omega)

theorem setBit_bit (bs : List Nat) (x y : Nat) (hx : x / 8 < bs.length) : ((setBit bs x).getD (y / 8) 0).testBit (y % 8) = ((bs.getD (y / 8) 0).testBit (y % 8) || decide (y = x)) := by
  unfold setBit
  by_cases h : y / 8 = x / 8
  · rw [h, List.getD_eq_getElem?_getD, List.getElem?_set_self hx, Option.getD_some, Nat.testBit_or, Nat.testBit_two_pow]
    congr 1
    rw [decide_eq_decide]; omega
  · rw [List.getD_eq_getElem?_getD, List.getElem?_set_ne (by omega), ← List.getD_eq_getElem?_getD, decide_eq_false (by intro e; exact h (by rw [e])), Bool.or_false]
theorem setBits_bit (l : List Nat) : ∀ (bs : List Nat) (y : Nat), (∀ x ∈ l, x / 8 < bs.length) → ((l.foldl setBit bs).getD (y / 8) 0).testBit (y % 8) = ((bs.getD (y / 8) 0).testBit (y % 8) || decide (y ∈ l)) := by
  induction l with
  | nil => intro bs y _; simp
  | cons x l ih =>
    intro bs y h
    rw [List.foldl_cons, ih _ _ (fun z hz => by rw [setBit_length]; exact h z (by simp [hz])), setBit_bit _ _ _ (h x (by simp)), Bool.or_assoc]
    congr 1
    by_cases e : y = x <;> simp [e]
theorem bitBytes_bit {l : List Nat} (h : ∀ x ∈ l, x < 65536) (y : Nat) : ((bitBytes l).getD (y / 8) 0).testBit (y % 8) = decide (y ∈ l) := by
  unfold bitBytes
  rw [setBits_bit _ _ _ (fun x hx => by have := h x hx; rw [List.length_replicate]; omega)]
  have : ((List.replicate 8192 0).getD (y / 8) 0) = 0 := by
    rw [List.getD_eq_getElem?_getD, List.getElem?_replicate]; split <;> rfl
  rw [this]; simp

/-- A rising list is the numbers that are in it, in order. -/
theorem filter_mem {l : List Nat} : ∀ (a n : Nat), l.Pairwise (· < ·) → (∀ x ∈ l, a ≤ x ∧ x < a + n) → (List.range' a n).filter (fun x => decide (x ∈ l)) = l := by
  intro a n
  induction n generalizing a l with
  | zero =>
    intro _ h
    cases l with
    | nil => rfl
    | cons x l => have := h x (by simp); omega
  | succ n ih =>
    intro hs h
    rw [List.range'_succ, List.filter_cons]
    by_cases ha : a ∈ l
    · rw [if_pos (by simpa using ha)]
      cases l with
      | nil => simp at ha
      | cons x l =>
        have hx : ∀ y ∈ l, x < y := (List.pairwise_cons.1 hs).1
        have : x = a := by
          rcases List.mem_cons.1 ha with e | e
          · exact e.symm
          · have := hx a e; have := h x (by simp); omega
        subst this
        congr 1
        have e := ih (l := l) (x + 1) (List.pairwise_cons.1 hs).2 (fun y hy => by have := hx y hy; have := h y (by simp [hy]); omega)
        refine Eq.trans ?_ e
        apply List.filter_congr
        intro y hy
        rw [List.mem_range'_1] at hy
        rw [decide_eq_decide]
        constructor
        · intro hm
          rcases List.mem_cons.1 hm with rfl | hm
          · omega
          · exact hm
        · intro hm; exact List.mem_cons_of_mem _ hm
    · rw [if_neg (by simpa using ha)]
      exact ih (a + 1) hs (fun y hy => by
        have := h y hy
        rcases Nat.lt_or_ge a y with h' | h'
        · omega
        · have : y = a := by omega
          subst this; exact absurd hy ha)

/-- Of bits the numbers are told. -/
theorem bits_back {l : List Nat} (hs : l.Pairwise (· < ·)) (h : ∀ x ∈ l, x < 65536) : restFrom (bitOf (decK 8 (bitBytes l))) 0 = l := by
  have e : bitOf (decK 8 (bitBytes l)) = fun x => decide (x ∈ l) := by
    funext x
    unfold bitOf
    rw [dec64_bit _ (bitBytes_byte l) (by simp), bitBytes_bit h]
  rw [e]
  exact filter_mem 0 65536 hs (fun x hx => by have := h x hx; omega)

theorem runNums_length (rs : List (Nat × Nat)) : (runNums rs).length = 2 * rs.length := flatMap_length _ 2 (fun _ => rfl) rs
theorem runNums_at {rs : List (Nat × Nat)} {k : Nat} {r : Nat × Nat} (h : rs[k]? = some r) : (runNums rs)[k * 2]? = some r.1 ∧ (runNums rs)[k * 2 + 1]? = some (r.2 - r.1) := by
  induction rs generalizing k with
  | nil => simp at h
  | cons x l ih =>
    cases k with
    | zero => simp at h; subst h; simp [runNums]
    | succ k =>
      have := ih (k := k) (by simpa using h)
      have e : runNums (x :: l) = x.1 :: (x.2 - x.1) :: runNums l := by simp [runNums]
      rw [e, show (k + 1) * 2 = k * 2 + 1 + 1 by omega]
      simpa using this

theorem bodyOf_length (rs : List (Nat × Nat)) (k : Nat) : (bodyOf rs k).length = if k = 0 then 2 * rgCard rs else if k = 1 then 8192 else 2 + 4 * rs.length := by
  unfold bodyOf
  split
  · rw [flatMap_length enc16 2 enc16_length, rgNums_length]
  · split
    · simp
    · rw [List.length_append, flatMap_length enc16 2 enc16_length, runNums_length]; simp; omega

theorem flatMap_byte {l : List Nat} (h : ∀ x ∈ l, x < 65536) : ∀ b ∈ l.flatMap enc16, b < 256 := by
  intro b hb
  obtain ⟨x, hx, hb⟩ := List.mem_flatMap.1 hb
  exact enc16_byte (h x hx) b hb
theorem runNums_lt {rs : List (Nat × Nat)} (h : RgOK 65536 rs) : ∀ x ∈ runNums rs, x < 65536 := by
  intro x hx
  obtain ⟨r, hr, hx⟩ := List.mem_flatMap.1 hx
  have := h.1 r hr
  simp at hx; omega
/-- Ranges below n, a number missing between each two: at most half of n, and one. -/
theorem rg_length {n : Nat} : ∀ (rs : List (Nat × Nat)) (lo : Nat), RgOK n rs → (∀ r ∈ rs, lo ≤ r.1) → lo ≤ n + 1 → 2 * rs.length + lo ≤ n + 1
  | [], lo, _, _, hl => by simpa using hl
  | r :: l, lo, h, hlo, hl => by
    have h1 := h.1 r (by simp)
    have h2 := hlo r (by simp)
    have := rg_length l (r.2 + 2) h.tail (fun x hx => by have := (List.pairwise_cons.1 h.2).1 x hx; omega) (by omega)
    simp only [List.length_cons]; omega
theorem bodyOf_byte {rs : List (Nat × Nat)} (h : RgOK 65536 rs) (k : Nat) : ∀ b ∈ bodyOf rs k, b < 256 := by
  unfold bodyOf
  split
  · exact flatMap_byte (rgNums_lt h)
  · split
    · exact bitBytes_byte _
    · intro b hb
      rcases List.mem_append.1 hb with hb | hb
      · have := rg_length rs 0 h (by simp) (by omega)
        exact enc16_byte (by omega) b hb
      · exact flatMap_byte (runNums_lt h) b hb
end Go.Roar

namespace Go.Roar

/-- Strictly rising. -/
def Rising (l : List Nat) : Prop := l.Pairwise (· < ·)

/-- How many numbers of l are below k: in a rising list the place of the first one that isn't. -/
def lb (l : List Nat) (k : Nat) : Nat := l.countP (· < k)

theorem lb_le (l : List Nat) (k : Nat) : lb l k ≤ l.length := List.countP_le_length

theorem lb_cons_lt {a : Nat} {l : List Nat} {k : Nat} (h : a < k) : lb (a :: l) k = lb l k + 1 := by
  simp [lb, h]

theorem lb_cons_ge {a : Nat} {l : List Nat} {k : Nat} (hs : Rising (a :: l)) (h : k ≤ a) : lb (a :: l) k = 0 := by
  have h1 : ∀ x ∈ l, a < x := (List.pairwise_cons.1 hs).1
  simp only [lb]
  rw [List.countP_eq_zero]
  intro x hx
  simp only [decide_eq_true_eq]
  rcases List.mem_cons.1 hx with rfl | hx
  · omega
  · have := h1 x hx; omega

theorem lb_below {l : List Nat} (hs : Rising l) (k : Nat) : ∀ j x, j < lb l k → l[j]? = some x → x < k := by
  induction l with
  | nil => intro j x h; simp [lb] at h
  | cons a l ih =>
    intro j x h hx
    rcases Nat.lt_or_ge a k with ha | ha
    · cases j with
      | zero => simp at hx; omega
      | succ j => rw [lb_cons_lt ha] at h; exact ih (List.pairwise_cons.1 hs).2 j x (by omega) (by simpa using hx)
    · rw [lb_cons_ge hs ha] at h; omega

theorem lb_above {l : List Nat} (hs : Rising l) (k : Nat) : ∀ j x, lb l k ≤ j → l[j]? = some x → k ≤ x := by
  induction l with
  | nil => intro j x h hx; simp at hx
  | cons a l ih =>
    intro j x h hx
    rcases Nat.lt_or_ge a k with ha | ha
    · cases j with
      | zero => rw [lb_cons_lt ha] at h; omega
      | succ j => rw [lb_cons_lt ha] at h; exact ih (List.pairwise_cons.1 hs).2 j x (by omega) (by simpa using hx)
    · cases j with
      | zero => simp at hx; omega
      | succ j =>
        have h1 : ∀ x ∈ l, a < x := (List.pairwise_cons.1 hs).1
        have := h1 x (List.mem_of_getElem? (by simpa using hx)); omega

/-- The place of a number in a rising list as Go's search tells it: where it is, or below 0 where it would be. -/
def bsOf (l : List Nat) (k : Nat) : Int := if l[lb l k]? = some k then (lb l k : Int) else - ((lb l k : Int) + 1)

theorem rising_lt {l : List Nat} (hs : Rising l) : ∀ (i j x y : Nat), i < j → l[i]? = some x → l[j]? = some y → x < y := by
  intro i j x y hij hx hy
  obtain ⟨hi, rfl⟩ := List.getElem?_eq_some_iff.1 hx
  obtain ⟨hj, rfl⟩ := List.getElem?_eq_some_iff.1 hy
  exact (List.pairwise_iff_getElem.1 hs) i j hi hj hij

theorem bsOf_at {l : List Nat} (hs : Rising l) {k m : Nat} (h : l[m]? = some k) : bsOf l k = m ∧ lb l k = m := by
  have : lb l k = m := by
    rcases Nat.lt_trichotomy (lb l k) m with h' | h' | h'
    · have hm : m < l.length := (List.getElem?_eq_some_iff.1 h).1
      obtain ⟨x, hx⟩ : ∃ x, l[lb l k]? = some x := ⟨l[lb l k]'(by omega), List.getElem?_eq_getElem _⟩
      have := lb_above hs k _ _ (Nat.le_refl _) hx
      have := rising_lt hs _ _ _ _ h' hx h
      omega
    · exact h'
    · have := lb_below hs k _ _ h' h; omega
  unfold bsOf
  rw [this, if_pos h]; exact ⟨rfl, rfl⟩

theorem bsOf_not {l : List Nat} {k : Nat} (h : l[lb l k]? ≠ some k) : bsOf l k = - ((lb l k : Int) + 1) := by
  unfold bsOf; rw [if_neg h]

/-- The 16-bit cells of a list. -/
theorem lb_eq {l : List Nat} (hs : Rising l) {k n : Nat} (hn : n ≤ l.length) (h1 : ∀ j x, j < n → l[j]? = some x → x < k) (h2 : ∀ x, l[n]? = some x → k ≤ x) : lb l k = n := by
  rcases Nat.lt_trichotomy (lb l k) n with h' | h' | h'
  · obtain ⟨x, hx⟩ : ∃ x, l[lb l k]? = some x := ⟨l[lb l k]'(by omega), List.getElem?_eq_getElem _⟩
    have := lb_above hs k _ _ (Nat.le_refl _) hx
    have := h1 _ _ h' hx
    omega
  · exact h'
  · have hl := lb_le l k
    obtain ⟨x, hx⟩ : ∃ x, l[n]? = some x := ⟨l[n]'(by omega), List.getElem?_eq_getElem _⟩
    have := lb_below hs k _ _ h' hx
    have := h2 x hx
    omega

end Go.Roar

namespace Go.Roar

/-- One range more: the last one grows over it, or it stands alone. -/
def mergeStep (out : List (Nat × Nat)) (r : Nat × Nat) : List (Nat × Nat) :=
  match out.getLast? with
  | some (a, b) => if r.1 ≤ b + 1 then out.dropLast ++ [(a, max b r.2)] else out ++ [r]
  | none => [r]
theorem mergeStep_nil (r : Nat × Nat) : mergeStep [] r = [r] := rfl
theorem mergeStep_on (l : List (Nat × Nat)) (a b : Nat) (r : Nat × Nat) (h : r.1 ≤ b + 1) : mergeStep (l ++ [(a, b)]) r = l ++ [(a, max b r.2)] := by simp [mergeStep, h]
theorem mergeStep_new (l : List (Nat × Nat)) (a b : Nat) (r : Nat × Nat) (h : ¬ r.1 ≤ b + 1) : mergeStep (l ++ [(a, b)]) r = l ++ [(a, b)] ++ [r] := by simp [mergeStep, h]

theorem RgOK.concat {n : Nat} {l : List (Nat × Nat)} {r : Nat × Nat} (h : RgOK n l) (hr : r.1 ≤ r.2 ∧ r.2 < n) (hl : ∀ x ∈ l, x.2 + 1 < r.1) : RgOK n (l ++ [r]) := by
  refine ⟨fun x hx => ?_, List.pairwise_append.2 ⟨h.2, List.pairwise_singleton _ _, fun x hx y hy => ?_⟩⟩
  · rcases List.mem_append.1 hx with hx | hx
    · exact h.1 x hx
    · simp at hx; subst hx; exact hr
  · simp at hy; subst hy; exact hl x hx

theorem mergeStep_ok {n : Nat} {out : List (Nat × Nat)} {r : Nat × Nat} (h : RgOK n out) (hr : r.1 ≤ r.2 ∧ r.2 < n) (hs : ∀ x ∈ out, x.1 ≤ r.1) :
    RgOK n (mergeStep out r) ∧ rgCard (mergeStep out r) ≤ rgCard out + (r.2 - r.1 + 1) ∧ (∀ x ∈ mergeStep out r, x.1 ≤ r.1) ∧ (mergeStep out r).length ≤ out.length + 1 := by
  rcases List.eq_nil_or_concat out with rfl | ⟨m, ⟨a, b⟩, rfl⟩
  · rw [mergeStep_nil]
    exact ⟨RgOK.concat (RgOK.nil n) hr (by simp), by simp [rgCard], by simp, by simp⟩
  · rw [List.concat_eq_append] at *
    have hab := h.1 (a, b) (by simp)
    have har := hs (a, b) (by simp)
    dsimp only at hab har
    have hm : RgOK n m := ⟨fun x hx => h.1 x (by simp [hx]), (List.pairwise_append.1 h.2).1⟩
    have hma : ∀ x ∈ m, x.2 + 1 < a := fun x hx => (List.pairwise_append.1 h.2).2.2 x hx (a, b) (by simp)
    by_cases hc : r.1 ≤ b + 1
    · rw [mergeStep_on _ _ _ _ hc]
      refine ⟨hm.concat (by dsimp only; omega) (by intro x hx; exact hma x hx), ?_, ?_, by simp⟩
      · rw [rgCard_append, rgCard_append, rgCard_cons, rgCard_cons]; dsimp only; omega
      · intro x hx
        rcases List.mem_append.1 hx with hx | hx
        · exact hs x (by simp [hx])
        · simp at hx; subst hx; exact har
    · rw [mergeStep_new _ _ _ _ hc]
      refine ⟨h.concat hr ?_, ?_, ?_, by simp⟩
      · intro x hx
        rcases List.mem_append.1 hx with hx | hx
        · have := hma x hx; omega
        · simp at hx; subst hx; dsimp only; omega
      · rw [rgCard_append (m ++ [(a, b)]), rgCard_cons]; simp [rgCard]
      · intro x hx
        rcases List.mem_append.1 hx with hx | hx
        · exact hs x hx
        · simp at hx; subst hx; exact Nat.le_refl _

theorem merge_ok {n : Nat} : ∀ (l out : List (Nat × Nat)), RgOK n out → (∀ r ∈ l, r.1 ≤ r.2 ∧ r.2 < n) → l.Pairwise (fun a b => a.1 ≤ b.1) → (∀ x ∈ out, ∀ r ∈ l, x.1 ≤ r.1) →
    RgOK n (l.foldl mergeStep out) ∧ rgCard (l.foldl mergeStep out) ≤ rgCard out + rgCard l ∧ (l.foldl mergeStep out).length ≤ out.length + l.length
  | [], out, h, _, _, _ => ⟨h, by simp [rgCard], by simp⟩
  | r :: l, out, h, hr, hp, hs => by
    obtain ⟨p1, p2⟩ := List.pairwise_cons.1 hp
    obtain ⟨s1, s2, s3, s4⟩ := mergeStep_ok h (hr r (by simp)) (fun x hx => hs x hx r (by simp))
    obtain ⟨t1, t2, t3⟩ := merge_ok l (mergeStep out r) s1 (fun q hq => hr q (List.mem_cons_of_mem _ hq)) p2 (fun x hx q hq => by have := s3 x hx; have := p1 q hq; omega)
    refine ⟨t1, ?_, ?_⟩
    · rw [rgCard_cons]; simp only [List.foldl_cons]; omega
    · simp only [List.foldl_cons, List.length_cons]; omega
end Go.Roar

namespace Go.Roar

/-- In order of the beginnings. -/
abbrev Srt (l : List (Nat × Nat)) : Prop := l.Pairwise fun a b => a.1 ≤ b.1

theorem srt_in {P S : List (Nat × Nat)} {x : Nat × Nat} (h : Srt (P ++ S)) (hx : ∀ s ∈ S, x.1 ≤ s.1) (hp : ∀ p ∈ P, p.1 ≤ x.1) : Srt (P ++ x :: S) := by
  obtain ⟨h1, h2, h3⟩ := List.pairwise_append.1 h
  refine List.pairwise_append.2 ⟨h1, List.pairwise_cons.2 ⟨hx, h2⟩, fun a ha b hb => ?_⟩
  rcases List.mem_cons.1 hb with rfl | hb
  · exact hp a ha
  · exact h3 a ha b hb
theorem srt_last {P : List (Nat × Nat)} {p x : Nat × Nat} (h : Srt (P ++ [p])) (hx : p.1 ≤ x.1) : ∀ q ∈ P ++ [p], q.1 ≤ x.1 := by
  intro q hq
  rcases List.mem_append.1 hq with hq | hq
  · have := (List.pairwise_append.1 h).2.2 q hq p (by simp); omega
  · simp at hq; subst hq; exact hx
theorem srt_down {P S : List (Nat × Nat)} {p : Nat × Nat} (h : Srt ((P ++ [p]) ++ S)) : Srt (P ++ p :: S) := by simpa using h
theorem card_swap (P R : List (Nat × Nat)) (p x : Nat × Nat) : rgCard (P ++ x :: p :: R) = rgCard (P ++ p :: x :: R) := by
  rw [rgCard_append, rgCard_append, rgCard_cons, rgCard_cons, rgCard_cons, rgCard_cons]; omega
theorem mem_swap {P R : List (Nat × Nat)} {p x q : Nat × Nat} (h : q ∈ P ++ x :: p :: R) : q ∈ P ++ p :: x :: R := by
  simp only [List.mem_append, List.mem_cons] at h ⊢
  rcases h with h | h | h | h
  · exact .inl h
  · exact .inr (.inr (.inl h))
  · exact .inr (.inl h)
  · exact .inr (.inr (.inr h))
end Go.Roar
