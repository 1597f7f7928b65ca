/-
  The format's bytes, and that they hold what the reader asks for.
-/
import Derived.Test.YtbfjpbpohkidoaaGreatDoorCr
import Derived.Test.YtbfjpbpohkidoaaGreatDoorQpl
namespace Go.Roar
open Go.RowKit

/-- Which parts are told by runs: bytes of bits. -/
def flagsOf (kd : List Nat) : List Nat := ((List.range kd.length).filter (fun i => kd.getD i 0 == 2)).foldl setBit (List.replicate ((kd.length + 7) / 8) 0)
def anyRuns (kd : List Nat) : Bool := kd.any (· == 2)
def headOf (kd : List Nat) : List Nat := if anyRuns kd then enc32 (12347 + (kd.length - 1) * 65536) ++ flagsOf kd else enc32 12346 ++ enc32 kd.length
def descNums (qs : List (Nat × List (Nat × Nat))) : List Nat := qs.flatMap fun q => [q.1, rgCard q.2 - 1]
def bodiesOf (qs : List (Nat × List (Nat × Nat))) (kd : List Nat) : List (List Nat) := (qs.zip kd).map fun x => bodyOf x.1.2 x.2
/-- The kinds fit the parts: each is of runs, or the plain one. -/
def KindsOK (qs : List (Nat × List (Nat × Nat))) (kd : List Nat) : Prop := kd.length = qs.length ∧ ∀ (i : Nat) (q : Nat × List (Nat × Nat)) (k : Nat), qs[i]? = some q → kd[i]? = some k → k = 2 ∨ (k = if rgCard q.2 ≤ 4096 then 0 else 1)
/-- How many bytes the places of the parts take. -/
def offLen (kd : List Nat) : Nat := if anyRuns kd = false ∨ 4 ≤ kd.length then 4 * kd.length else 0

theorem flagsOf_length (kd : List Nat) : (flagsOf kd).length = (kd.length + 7) / 8 := by unfold flagsOf; rw [setBits_length, List.length_replicate]
theorem flagsOf_byte (kd : List Nat) : ∀ b ∈ flagsOf kd, b < 256 := setBits_byte _ (by intro b hb; have := (List.mem_replicate.1 hb).2; omega)
theorem flagsOf_bit {kd : List Nat} {i k : Nat} (h : kd[i]? = some k) : ((flagsOf kd).getD (i / 8) 0).testBit (i % 8) = decide (k = 2) := by
  obtain ⟨hi, hk⟩ := List.getElem?_eq_some_iff.1 h
  unfold flagsOf
  rw [setBits_bit _ _ _ (fun x hx => by simp at hx; rw [List.length_replicate]; omega)]
  have e1 : ((List.replicate ((kd.length + 7) / 8) 0).getD (i / 8) 0) = 0 := by
    rw [List.getD_eq_getElem?_getD, List.getElem?_replicate]; split <;> rfl
  rw [e1, Nat.zero_testBit, Bool.false_or]
  rw [Bool.eq_iff_iff]
  simp only [decide_eq_true_eq, List.mem_filter, List.mem_range, beq_iff_eq]
  rw [List.getD_eq_getElem?_getD, h]
  simp [hi]
theorem anyRuns_of {kd : List Nat} {i : Nat} (h : kd[i]? = some 2) : anyRuns kd = true := by
  unfold anyRuns
  rw [List.any_eq_true]
  exact ⟨2, List.mem_of_getElem? h, rfl⟩
theorem descNums_length (qs : List (Nat × List (Nat × Nat))) : (descNums qs).length = 2 * qs.length := flatMap_length _ 2 (fun _ => rfl) qs
theorem descNums_at {qs : List (Nat × List (Nat × Nat))} {i : Nat} {q : Nat × List (Nat × Nat)} (h : qs[i]? = some q) : (descNums qs)[2 * i]? = some q.1 ∧ (descNums qs)[2 * i + 1]? = some (rgCard q.2 - 1) := by
  have e : (descNums qs).drop (2 * i) = (qs.drop i).flatMap fun q => [q.1, rgCard q.2 - 1] := flatMap_drop _ 2 (fun _ => rfl) qs i
  obtain ⟨hi, rfl⟩ := List.getElem?_eq_some_iff.1 h
  rw [List.drop_eq_getElem_cons hi, List.flatMap_cons] at e
  constructor
  · have := congrArg (fun l => l[0]?) e
    simpa [List.getElem?_drop] using this
  · have := congrArg (fun l => l[1]?) e
    simpa [List.getElem?_drop] using this
theorem headOf_length (kd : List Nat) : (headOf kd).length = if anyRuns kd then 4 + (kd.length + 7) / 8 else 8 := by
  unfold headOf
  split
  · rw [List.length_append, flagsOf_length]; rfl
  · rfl

/-- Where part i's bytes begin, behind 'start'. -/
def posAt (start : Nat) (bodies : List (List Nat)) (i : Nat) : Nat := start + (bodies.take i).flatten.length
theorem posAt_zero (start : Nat) (bodies : List (List Nat)) : posAt start bodies 0 = start := by simp [posAt]
theorem posAt_succ {start : Nat} {bodies : List (List Nat)} {i : Nat} {b : List Nat} (h : bodies[i]? = some b) : posAt start bodies (i + 1) = posAt start bodies i + b.length := by
  obtain ⟨hi, rfl⟩ := List.getElem?_eq_some_iff.1 h
  unfold posAt
  rw [List.take_succ_eq_append_getElem hi, List.flatten_append, List.length_append]
  simp; omega
theorem posAt_all (start : Nat) (bodies : List (List Nat)) : posAt start bodies bodies.length = start + bodies.flatten.length := by unfold posAt; rw [List.take_length]
theorem body_there {A : List Nat} {bodies : List (List Nat)} {i : Nat} {b : List Nat} (h : bodies[i]? = some b) : ((A ++ bodies.flatten).drop (posAt A.length bodies i)).take b.length = b ∧ posAt A.length bodies i + b.length ≤ (A ++ bodies.flatten).length := by
  obtain ⟨hi, rfl⟩ := List.getElem?_eq_some_iff.1 h
  have e : bodies.flatten = (bodies.take i).flatten ++ (bodies[i] ++ (bodies.drop (i + 1)).flatten) := by
    conv => lhs; rw [← List.take_append_drop i bodies, List.flatten_append, List.drop_eq_getElem_cons hi, List.flatten_cons]
  unfold posAt
  constructor
  · rw [e, ← List.append_assoc, List.drop_left' (by simp), List.take_left' rfl]
  · rw [List.length_append, e, List.length_append, List.length_append]; omega
theorem bodiesOf_at {qs : List (Nat × List (Nat × Nat))} {kd : List Nat} {i k : Nat} {q : Nat × List (Nat × Nat)} (hq : qs[i]? = some q) (hk : kd[i]? = some k) : (bodiesOf qs kd)[i]? = some (bodyOf q.2 k) := by
  unfold bodiesOf
  have e : (qs.zip kd)[i]? = some (q, k) := List.getElem?_zip_eq_some.2 ⟨hq, hk⟩
  rw [List.getElem?_map, e]; rfl
theorem bodiesOf_length {qs : List (Nat × List (Nat × Nat))} {kd : List Nat} (h : kd.length = qs.length) : (bodiesOf qs kd).length = qs.length := by unfold bodiesOf; simp [h]
theorem rgCard_le {n : Nat} : ∀ (rs : List (Nat × Nat)) (lo : Nat), RgOK n rs → (∀ r ∈ rs, lo ≤ r.1) → lo ≤ n → rgCard rs + lo ≤ n
  | [], lo, _, _, hl => by simpa [rgCard] using hl
  | r :: l, lo, h, hlo, hl => by
    have h1 := h.1 r (by simp)
    have h2 := hlo r (by simp)
    have := rgCard_le l (r.2 + 1) h.tail (fun q hq => by have := (List.pairwise_cons.1 h.2).1 q hq; omega) (by omega)
    rw [rgCard_cons]; omega

/-- All the bytes: the places' bytes may be any. -/
def wholeOf (qs : List (Nat × List (Nat × Nat))) (kd offs : List Nat) : List Nat := headOf kd ++ (descNums qs).flatMap enc16 ++ offs ++ (bodiesOf qs kd).flatten

/-- The parts of the format, as the reader asks for them. -/
theorem whole_items {qs : List (Nat × List (Nat × Nat))} {kd offs : List Nat} (hq : ∀ q ∈ qs, q.1 < 65536 ∧ q.2 ≠ [] ∧ RgOK 65536 q.2) (hk : KindsOK qs kd) (i key card1 kind : Nat) (body : List Nat)
    (h1 : (qs.map (·.1))[i]? = some key) (h2 : (qs.map fun q => rgCard q.2 - 1)[i]? = some card1) (h3 : kd[i]? = some kind) (h4 : (bodiesOf qs kd)[i]? = some body) :
    RItem (wholeOf qs kd offs) ((descNums qs).flatMap enc16) (if anyRuns kd then some (flagsOf kd) else none) (posAt (headOf kd ++ (descNums qs).flatMap enc16 ++ offs).length (bodiesOf qs kd)) i key card1 kind body := by
  have hi : i < qs.length := by have := (List.getElem?_eq_some_iff.1 h1).1; simpa using this
  obtain ⟨q, hx⟩ : ∃ q, qs[i]? = some q := ⟨_, List.getElem?_eq_getElem hi⟩
  obtain rfl : q.1 = key := by rw [List.getElem?_map, hx] at h1; simpa using h1
  obtain rfl : rgCard q.2 - 1 = card1 := by rw [List.getElem?_map, hx] at h2; simpa using h2
  have e4 := bodiesOf_at hx h3
  rw [h4] at e4
  obtain rfl : body = bodyOf q.2 kind := by simpa using e4
  obtain ⟨q1, q2, q3⟩ := hq q (List.mem_of_getElem? hx)
  have hc := rgCard_le q.2 0 q3 (fun _ _ => Nat.zero_le _) (Nat.zero_le _)
  have hl := rg_length q.2 0 q3 (fun _ _ => Nat.zero_le _) (by omega)
  have hc0 : 1 ≤ rgCard q.2 := by
    rcases hq2 : q.2 with _ | ⟨r, l⟩
    · exact absurd hq2 q2
    · rw [rgCard_cons]; omega
  have hb := body_there (A := headOf kd ++ (descNums qs).flatMap enc16 ++ offs) h4
  exact {
    key := by rw [dec16_enc]; exact (descNums_at hx).1
    card := by rw [dec16_enc]; exact (descNums_at hx).2
    bodyEq := hb.1
    bound := by omega
    next := posAt_succ h4
    fits := hb.2
    flag := by
      by_cases ha : anyRuns kd = true
      · rw [if_pos ha]; exact flagsOf_bit h3
      · rw [if_neg ha]
        show false = decide (kind = 2)
        by_cases h : kind = 2
        · subst h; exact absurd (anyRuns_of h3) ha
        · simp [h]
    kinds := by
      have hbl := bodyOf_length q.2 kind
      rcases hk.2 i q kind hx h3 with rfl | h
      · refine .inl ⟨rfl, q.2.length, q.2.length % 256, q.2.length / 256, by omega, hbl, rfl, rfl, leN_enc16 _⟩
      · by_cases h5 : rgCard q.2 ≤ 4096
        · rw [if_pos h5] at h; subst h
          rw [if_pos rfl] at hbl
          exact .inr (.inr ⟨rfl, by omega, by rw [hbl]; omega⟩)
        · rw [if_neg h5] at h; subst h
          rw [if_neg (by decide), if_pos rfl] at hbl
          exact .inr (.inl ⟨rfl, by omega, hbl⟩) }
end Go.Roar
