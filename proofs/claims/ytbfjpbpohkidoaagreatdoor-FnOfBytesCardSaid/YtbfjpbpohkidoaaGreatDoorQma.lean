/-
  spec.Made: a set of ranges (under way: the first loop).
  Plain laws for the insertion sort's inner loop: one range on its way down, by its place.
  Plain laws for the walks of spec.Parts and spec.Bytes.
  The parts of a set in memory: a slice of parts, each with a slice of ranges of its own.
  What spec.Made, spec.Parts, spec.Bytes and laws.set are to show, by names: each walk leans on the others by these alone.
-/
import Derived.Test.YtbfjpbpohkidoaaGreatDoorFi
import Derived.Test.YtbfjpbpohkidoaaGreatDoorQpl
import Derived.Test.YtbfjpbpohkidoaaGreatDoorFm
namespace Go.Roar
open Go.RowKit Go.Proofs
/-- Ranges as cells of wide numbers. -/
def rcs (rs : List (Nat × Nat)) : List Value := rs.flatMap fun r => [.int .i64 ((r.1 : Nat) : Int), .int .i64 ((r.2 : Nat) : Int)]
theorem rcs_append (a b : List (Nat × Nat)) : rcs (a ++ b) = rcs a ++ rcs b := by simp [rcs]
theorem rcs_length (a : List (Nat × Nat)) : (rcs a).length = a.length * 2 := by
  induction a with
  | nil => rfl
  | cons r l ih => rw [show r :: l = [r] ++ l from rfl, rcs_append, List.length_append, ih]; simp [rcs]; omega
theorem rcs_at {rs : List (Nat × Nat)} {i : Nat} {r : Nat × Nat} (h : rs[i]? = some r) : (rcs rs)[i * 2]? = some (.int .i64 (r.1 : Int)) ∧ (rcs rs)[i * 2 + 1]? = some (.int .i64 (r.2 : Int)) := by
  obtain ⟨hi, rfl⟩ := List.getElem?_eq_some_iff.1 h
  have e : rcs rs = rcs (rs.take i) ++ rcs (rs[i] :: rs.drop (i + 1)) := by
    rw [← rcs_append]; congr 1
    rw [← List.drop_eq_getElem_cons hi, List.take_append_drop]
  have hl : (rcs (rs.take i)).length = i * 2 := by rw [rcs_length, List.length_take]; omega
  rw [e]
  constructor
  · rw [List.getElem?_append_right (by omega), hl, Nat.sub_self]; rfl
  · rw [List.getElem?_append_right (by omega), hl, show i * 2 + 1 - i * 2 = 1 by omega]; rfl
theorem RV.own {w : World} {v : Value} {rs : List (Nat × Nat)} (h : Own w 2 44 v rs.length (rcs rs)) : RV w v rs := by
  rcases h.2 with ⟨rfl, h0⟩ | ⟨g, k, r, rfl, hr, hm, hb⟩
  · obtain rfl := List.eq_nil_of_length_eq_zero h0
    exact ⟨_, _, rfl, by simp⟩
  · refine ⟨_, _, rfl, fun i x hx => ⟨g, rfl, ?_, ?_⟩⟩
    · have e := (rcs_at hx).1
      exact (hb.cell _).trans (by rw [List.getElem?_append_left (List.getElem?_eq_some_iff.1 e).1]; exact e)
    · have e := (rcs_at hx).2
      exact (hb.cell _).trans (by rw [List.getElem?_append_left (List.getElem?_eq_some_iff.1 e).1]; exact e)
/-- The ranges that hold any number. -/
def keep (l : List (Nat × Nat)) : List (Nat × Nat) := l.filter fun r => decide (r.1 ≤ r.2)
theorem keep_take {l : List (Nat × Nat)} {k : Nat} {r : Nat × Nat} (h : l[k]? = some r) : keep (l.take (k + 1)) = if r.1 ≤ r.2 then keep (l.take k) ++ [r] else keep (l.take k) := by
  obtain ⟨hk, rfl⟩ := List.getElem?_eq_some_iff.1 h
  unfold keep
  rw [List.take_succ_eq_append_getElem hk, List.filter_append]
  by_cases hc : l[k].1 ≤ l[k].2 <;> simp [hc]
end Go.Roar

namespace Go.Roar

/-- The list M while the range at place j goes down: what lies before it and behind it, up to place k, is in order. -/
def Srtd (k n c : Nat) (M : List (Nat × Nat)) (j : Nat) : Prop :=
  ∃ P x S T, M = P ++ x :: (S ++ T) ∧ P.length = j ∧ P.length + S.length = k ∧ Srt (P ++ S) ∧ (∀ s ∈ S, x.1 ≤ s.1) ∧ (∀ r ∈ M, r.1 ≤ r.2 ∧ r.2 < 4294967296) ∧ rgCard M = c ∧ M.length = n
/-- The list M, of which the first k are in order. -/
def Srk (k n c : Nat) (M : List (Nat × Nat)) : Prop := Srt (M.take k) ∧ (∀ r ∈ M, r.1 ≤ r.2 ∧ r.2 < 4294967296) ∧ rgCard M = c ∧ M.length = n

theorem srtd_start {k n c : Nat} {M : List (Nat × Nat)} (h : Srk k n c M) (hk : k < n) : Srtd k n c M k := by
  obtain ⟨h1, h2, h3, h4⟩ := h
  refine ⟨M.take k, M[k], [], M.drop (k + 1), ?_, by rw [List.length_take]; omega, by simp; omega, by simpa using h1, by simp, h2, h3, h4⟩
  rw [List.nil_append, ← List.drop_eq_getElem_cons (by omega), List.take_append_drop]
theorem srtd_end {k n c : Nat} {M : List (Nat × Nat)} {j : Nat} (h : Srtd k n c M j) (hl : ∀ p ∈ M.take j, ∀ x, M[j]? = some x → p.1 ≤ x.1) : Srk (k + 1) n c M := by
  obtain ⟨P, x, S, T, rfl, h1, h2, h3, h4, h5, h6, h7⟩ := h
  refine ⟨?_, h5, h6, h7⟩
  have e : (P ++ x :: (S ++ T)).take (k + 1) = P ++ x :: S := by
    rw [show P ++ x :: (S ++ T) = (P ++ x :: S) ++ T by simp, List.take_left' (by simp; omega)]
  rw [e]
  refine srt_in h3 h4 (fun p hp => hl p ?_ x ?_)
  · rw [List.take_left' h1]; exact hp
  · rw [List.getElem?_append_right (by omega), h1, Nat.sub_self]; rfl
theorem srtd_end0 {k n c : Nat} {M : List (Nat × Nat)} (h : Srtd k n c M 0) : Srk (k + 1) n c M := srtd_end h (by simp)
theorem srtd_endp {k n c : Nat} {M : List (Nat × Nat)} {j : Nat} {p x : Nat × Nat} (h : Srtd k n c M (j + 1)) (hp : M[j]? = some p) (hx : M[j + 1]? = some x) (hle : p.1 ≤ x.1) : Srk (k + 1) n c M := by
  refine srtd_end h (fun q hq y hy => ?_)
  rw [hx] at hy; simp at hy; subst hy
  obtain ⟨P, z, S, T, rfl, h1, h2, h3, h4, h5, h6, h7⟩ := h
  rw [List.take_left' h1] at hq
  rcases List.eq_nil_or_concat P with rfl | ⟨P0, y, rfl⟩
  · simp at hq
  · rw [List.concat_eq_append] at *
    have e : y = p := by
      rw [List.append_assoc, List.getElem?_append_right (by simp at h1; omega), show j - P0.length = 0 by simp at h1; omega] at hp
      simpa using hp
    subst e
    have h3' : Srt (P0 ++ [y]) := (List.pairwise_append.1 h3).1
    exact srt_last h3' hle q hq
theorem srtd_lt {k n c : Nat} {M : List (Nat × Nat)} {j : Nat} (h : Srtd k n c M j) : j ≤ k ∧ k < n ∧ M.length = n := by
  obtain ⟨P, x, S, T, rfl, h1, h2, h3, h4, h5, h6, h7⟩ := h
  simp at h7 ⊢; omega
theorem srtd_swap {k n c : Nat} {M : List (Nat × Nat)} {j : Nat} {p x : Nat × Nat} (h : Srtd k n c M (j + 1)) (hp : M[j]? = some p) (hx : M[j + 1]? = some x) (hlt : x.1 < p.1) : Srtd k n c ((M.set (j + 1) p).set j x) j := by
  obtain ⟨P, z, S, T, rfl, h1, h2, h3, h4, h5, h6, h7⟩ := h
  have e0 : z = x := by
    rw [List.getElem?_append_right (by omega), h1, Nat.sub_self] at hx
    simpa using hx
  subst e0
  rcases List.eq_nil_or_concat P with rfl | ⟨P0, y, rfl⟩
  · simp at h1
  · rw [List.concat_eq_append] at *
    have hj : P0.length = j := by simp at h1; omega
    have e : y = p := by
      rw [List.append_assoc, List.getElem?_append_right (by omega), show j - P0.length = 0 by omega] at hp
      simpa using hp
    subst e
    have e1 : (((P0 ++ [y] ++ z :: (S ++ T)).set (j + 1) y).set j z) = P0 ++ z :: (y :: S ++ T) := by
      subst hj
      rw [List.append_assoc, List.set_append_right _ _ (by omega), List.set_append_right _ _ (by omega)]
      simp
    rw [e1]
    have e2 : P0 ++ [y] ++ z :: (S ++ T) = P0 ++ y :: z :: (S ++ T) := by simp
    rw [e2] at h5 h6 h7
    refine ⟨P0, z, y :: S, T, rfl, hj, by simp at h2 ⊢; omega, srt_down h3, ?_, ?_, ?_, ?_⟩
    · intro s hs
      rcases List.mem_cons.1 hs with rfl | hs
      · omega
      · exact h4 s hs
    · intro r hr
      exact h5 r (mem_swap hr)
    · exact (card_swap P0 (S ++ T) y z).trans h6
    · simp at h7 ⊢; omega

theorem rcs_set (M : List (Nat × Nat)) : ∀ (i : Nat) (r : Nat × Nat), ((rcs M).set (i * 2) (.int .i64 (r.1 : Int))).set (i * 2 + 1) (.int .i64 (r.2 : Int)) = rcs (M.set i r) := by
  induction M with
  | nil => intro i r; rfl
  | cons m l ih =>
    intro i r
    cases i with
    | zero => rfl
    | succ i =>
      have := ih i r
      simp only [rcs, List.flatMap_cons, List.cons_append, List.nil_append, List.set_cons_succ] at this ⊢
      rw [show (i + 1) * 2 = i * 2 + 1 + 1 by omega, show i * 2 + 1 + 1 + 1 = (i * 2 + 1) + 1 + 1 by omega]
      simp only [List.set_cons_succ]
      rw [this]
theorem merge_take {l : List (Nat × Nat)} {k : Nat} {r : Nat × Nat} (h : l[k]? = some r) : (l.take (k + 1)).foldl mergeStep [] = mergeStep ((l.take k).foldl mergeStep []) r := by
  obtain ⟨hk, rfl⟩ := List.getElem?_eq_some_iff.1 h
  rw [List.take_succ_eq_append_getElem hk, List.foldl_append]; rfl
end Go.Roar

namespace Go.Roar

/-- The pieces up to range k, and of range r up to the upper bits j. -/
def upto (s : List (Nat × Nat)) (k : Nat) (r : Nat × Nat) (j : Nat) : List (Nat × (Nat × Nat)) := (s.take k).flatMap pieces ++ (List.range' (r.1 / 65536) (j - r.1 / 65536)).map (pieceAt r)
theorem upto_start (s : List (Nat × Nat)) (k : Nat) (r : Nat × Nat) : upto s k r (r.1 / 65536) = (s.take k).flatMap pieces := by simp [upto]
theorem upto_step (s : List (Nat × Nat)) (k : Nat) (r : Nat × Nat) (j : Nat) (h : r.1 / 65536 ≤ j) : (upto s k r (j + 1)).foldl addPiece [] = addPiece ((upto s k r j).foldl addPiece []) (pieceAt r j) := by
  unfold upto
  rw [show j + 1 - r.1 / 65536 = (j - r.1 / 65536) + 1 by omega, List.range'_concat, List.map_append, ← List.append_assoc, List.foldl_append]
  simp only [List.map_cons, List.map_nil, List.foldl_cons, List.foldl_nil]
  rw [show r.1 / 65536 + 1 * (j - r.1 / 65536) = j by omega]
theorem upto_end {s : List (Nat × Nat)} {k : Nat} {r : Nat × Nat} (h : s[k]? = some r) (hr : r.1 ≤ r.2) : upto s k r (r.2 / 65536 + 1) = (s.take (k + 1)).flatMap pieces := by
  obtain ⟨hk, rfl⟩ := List.getElem?_eq_some_iff.1 h
  unfold upto
  rw [List.take_succ_eq_append_getElem hk, List.flatMap_append]
  congr 1
  rw [List.flatMap_cons, List.flatMap_nil, List.append_nil]
  unfold pieces
  rw [show s[k].2 / 65536 + 1 - s[k].1 / 65536 = s[k].2 / 65536 - s[k].1 / 65536 + 1 by omega]
theorem pieces_length (r : Nat × Nat) : (pieces r).length = r.2 / 65536 - r.1 / 65536 + 1 := by simp [pieces]
theorem flat_length {s : List (Nat × Nat)} (h : ∀ r ∈ s, r.2 < 4294967296) : (s.flatMap pieces).length ≤ s.length * 65536 := by
  induction s with
  | nil => simp
  | cons r l ih =>
    have h1 := h r (by simp)
    have h2 := ih (fun x hx => h x (by simp [hx]))
    rw [List.flatMap_cons, List.length_append, pieces_length, List.length_cons]
    omega
theorem addPiece_new {out : List (Nat × List (Nat × Nat))} {p : Nat × (Nat × Nat)} (h : ∀ m q, out = m ++ [q] → q.1 ≠ p.1) : addPiece out p = out ++ [(p.1, [p.2])] := by
  rcases List.eq_nil_or_concat out with rfl | ⟨o, ⟨k, l⟩, rfl⟩
  · rfl
  · rw [List.concat_eq_append] at *
    have := h o (k, l) rfl
    simp [addPiece, this]
theorem addPiece_on (o : List (Nat × List (Nat × Nat))) (k : Nat) (l : List (Nat × Nat)) (p : Nat × (Nat × Nat)) (h : k = p.1) : addPiece (o ++ [(k, l)]) p = o ++ [(k, l ++ [p.2])] := by simp [addPiece, h]
theorem addPiece_size : ∀ (ps : List (Nat × (Nat × Nat))) (out : List (Nat × List (Nat × Nat))) (b : Nat), out.length ≤ b → (∀ q ∈ out, q.2.length ≤ b) → (ps.foldl addPiece out).length ≤ b + ps.length ∧ ∀ q ∈ ps.foldl addPiece out, q.2.length ≤ b + ps.length
  | [], out, b, h1, h2 => ⟨by simpa using h1, by simpa using h2⟩
  | p :: ps, out, b, h1, h2 => by
    have h3 : (addPiece out p).length ≤ b + 1 ∧ ∀ q ∈ addPiece out p, q.2.length ≤ b + 1 := by
      by_cases hc : ∀ m q, out = m ++ [q] → q.1 ≠ p.1
      · rw [addPiece_new hc]
        refine ⟨by simp; omega, fun q hq => ?_⟩
        rcases List.mem_append.1 hq with hq | hq
        · have := h2 q hq; omega
        · simp at hq; subst hq; simp
      · simp only [Classical.not_forall, Decidable.not_not] at hc
        obtain ⟨m, ⟨k, l⟩, rfl, he⟩ := hc
        rw [addPiece_on _ _ _ _ he]
        refine ⟨by simp at h1 ⊢; omega, fun q hq => ?_⟩
        rcases List.mem_append.1 hq with hq | hq
        · have := h2 q (by simp [hq]); omega
        · have := h2 (k, l) (by simp)
          simp at hq this; subst hq; simp; omega
    obtain ⟨r1, r2⟩ := addPiece_size ps (addPiece out p) (b + 1) h3.1 h3.2
    simp only [List.foldl_cons, List.length_cons]
    exact ⟨by omega, fun q hq => by have := r2 q hq; omega⟩
theorem upto_length {s : List (Nat × Nat)} {k : Nat} {r : Nat × Nat} {j : Nat} (h : ∀ r ∈ s, r.2 < 4294967296) (hj : j ≤ 65536) : (upto s k r j).length ≤ s.length * 65536 + 65536 := by
  have h1 := flat_length (s := s.take k) (fun x hx => h x (List.mem_of_mem_take hx))
  have h2 : (s.take k).length ≤ s.length := by rw [List.length_take]; omega
  unfold upto
  rw [List.length_append, List.length_map, List.length_range']
  have : (s.take k).length * 65536 ≤ s.length * 65536 := Nat.mul_le_mul_right _ h2
  omega
theorem upto_size {s : List (Nat × Nat)} {k : Nat} {r : Nat × Nat} {j : Nat} (h : ∀ r ∈ s, r.2 < 4294967296) (hj : j ≤ 65536) (hs : s.length ≤ 1000) :
    ((upto s k r j).foldl addPiece []).length ≤ 66000000 ∧ ∀ q ∈ (upto s k r j).foldl addPiece [], q.2.length ≤ 66000000 := by
  have h1 := upto_length (k := k) (r := r) h hj
  obtain ⟨a, b⟩ := addPiece_size (upto s k r j) [] 0 (by simp) (by simp)
  exact ⟨by omega, fun q hq => by have := b q hq; omega⟩

/-- The parts' sizes add up. -/
theorem partNums_length : ∀ (qs : List (Nat × List (Nat × Nat))), (partNums qs).length = (qs.map fun q => rgCard q.2).sum
  | [] => rfl
  | q :: l => by
    have := partNums_length l
    show (partNums ([q] ++ l)).length = _
    rw [partNums_append, List.length_append, this]
    simp [partNums, rgNums_length]
theorem partsOf_card {s : List (Nat × Nat)} (h : RgOK 4294967296 s) : ((partsOf s).map fun q => rgCard q.2).sum = rgCard s := by
  rw [← partNums_length, (partsOf_ok h).2, rgNums_length]
theorem card_pos {l : List (Nat × Nat)} (h : l ≠ []) : l.length ≤ rgCard l ∧ 1 ≤ l.length := by
  constructor
  · clear h
    induction l with
    | nil => simp
    | cons r l ih => rw [rgCard_cons, List.length_cons]; omega
  · cases l with
    | nil => exact absurd rfl h
    | cons => simp
theorem len_le_sum : ∀ (qs : List (Nat × List (Nat × Nat))), (∀ q ∈ qs, q.2 ≠ []) → qs.length ≤ (qs.map fun q => rgCard q.2).sum
  | [], _ => by simp
  | q :: l, h => by
    have := len_le_sum l (fun x hx => h x (by simp [hx]))
    have := card_pos (h q (by simp))
    simp; omega
theorem bodies_le : ∀ (qs : List (Nat × List (Nat × Nat))) (kd : List Nat), (∀ q ∈ qs, q.2 ≠ []) → KindsOK qs kd → (bodiesOf qs kd).flatten.length ≤ 6 * (qs.map fun q => rgCard q.2).sum
  | [], _, _, _ => by simp [bodiesOf]
  | q :: l, [], h, hk => by have := hk.1; simp at this
  | q :: l, k :: kd, h, hk => by
    have h0 : KindsOK l kd := ⟨by simpa using hk.1, fun i q' k' a b => hk.2 (i + 1) q' k' (by simpa using a) (by simpa using b)⟩
    have := bodies_le l kd (fun x hx => h x (by simp [hx])) h0
    have e : bodiesOf (q :: l) (k :: kd) = bodyOf q.2 k :: bodiesOf l kd := rfl
    rw [e, List.flatten_cons, List.length_append, bodyOf_length]
    have hc := card_pos (h q (by simp))
    have hkk := hk.2 0 q k rfl rfl
    simp only [List.map_cons, List.sum_cons]
    rcases hkk with rfl | hkk
    · rw [if_neg (by decide), if_neg (by decide)]; omega
    · by_cases h5 : rgCard q.2 ≤ 4096
      · rw [if_pos h5] at hkk; subst hkk; rw [if_pos rfl]; omega
      · rw [if_neg h5] at hkk; subst hkk; rw [if_neg (by decide), if_pos rfl]; omega
theorem nums_parts (qs : List (Nat × List (Nat × Nat))) : nums (qs.map fun q => (q.1, rgNums q.2)) = partNums qs := by
  unfold nums partNums
  rw [List.flatMap_map]

/-- The bits of the flags, up to the kind k. -/
def flagsTo (kd : List Nat) (n k : Nat) : List Nat := ((List.range k).filter (fun i => kd.getD i 0 == 2)).foldl setBit (List.replicate ((n + 7) / 8) 0)
theorem flagsTo_zero (kd : List Nat) (n : Nat) : flagsTo kd n 0 = List.replicate ((n + 7) / 8) 0 := rfl
theorem flagsTo_all (kd : List Nat) : flagsTo kd kd.length kd.length = flagsOf kd := rfl
theorem flagsTo_two {kd : List Nat} {n k : Nat} (h : kd[k]? = some 2) : flagsTo kd n (k + 1) = setBit (flagsTo kd n k) k := by
  unfold flagsTo
  rw [List.range_succ, List.filter_append, List.foldl_append]
  have e : [k].filter (fun i => kd.getD i 0 == 2) = [k] := by rw [List.filter_cons_of_pos (by rw [List.getD_eq_getElem?_getD, h]; rfl)]; rfl
  rw [e]; rfl
theorem flagsTo_else {kd : List Nat} {n k x : Nat} (h : kd[k]? = some x) (hx : x ≠ 2) : flagsTo kd n (k + 1) = flagsTo kd n k := by
  unfold flagsTo
  rw [List.range_succ, List.filter_append, List.foldl_append]
  have e : [k].filter (fun i => kd.getD i 0 == 2) = [] := by rw [List.filter_cons_of_neg (by rw [List.getD_eq_getElem?_getD, h]; simpa using hx)]; rfl
  rw [e]; rfl
theorem flagsTo_length (kd : List Nat) (n k : Nat) : (flagsTo kd n k).length = (n + 7) / 8 := by unfold flagsTo; rw [setBits_length, List.length_replicate]
theorem flagsTo_byte (kd : List Nat) (n k : Nat) : ∀ b ∈ flagsTo kd n k, b < 256 := setBits_byte _ (by intro b hb; have := (List.mem_replicate.1 hb).2; omega)
theorem anyTo_two {kd : List Nat} {k : Nat} (h : kd[k]? = some 2) : anyRuns (kd.take (k + 1)) = true := by
  obtain ⟨hk, e⟩ := List.getElem?_eq_some_iff.1 h
  unfold anyRuns
  rw [List.take_succ_eq_append_getElem hk, List.any_append]
  simp [e]
theorem anyTo_else {kd : List Nat} {k x : Nat} (h : kd[k]? = some x) (hx : x ≠ 2) : anyRuns (kd.take (k + 1)) = anyRuns (kd.take k) := by
  obtain ⟨hk, e⟩ := List.getElem?_eq_some_iff.1 h
  unfold anyRuns
  rw [List.take_succ_eq_append_getElem hk, List.any_append]
  simp [e, hx]
theorem desc_take {qs : List (Nat × List (Nat × Nat))} {k : Nat} {q : Nat × List (Nat × Nat)} (h : qs[k]? = some q) : (descNums (qs.take (k + 1))).flatMap enc16 = (descNums (qs.take k)).flatMap enc16 ++ enc16 q.1 ++ enc16 (rgCard q.2 - 1) := by
  obtain ⟨hk, rfl⟩ := List.getElem?_eq_some_iff.1 h
  unfold descNums
  rw [List.take_succ_eq_append_getElem hk, List.flatMap_append, List.flatMap_append]
  simp
theorem bodies_take {qs : List (Nat × List (Nat × Nat))} {kd : List Nat} {k x : Nat} {q : Nat × List (Nat × Nat)} (h : qs[k]? = some q) (hx : kd[k]? = some x) : (bodiesOf (qs.take (k + 1)) (kd.take (k + 1))).flatten = (bodiesOf (qs.take k) (kd.take k)).flatten ++ bodyOf q.2 x := by
  obtain ⟨hk, rfl⟩ := List.getElem?_eq_some_iff.1 h
  obtain ⟨hk2, rfl⟩ := List.getElem?_eq_some_iff.1 hx
  unfold bodiesOf
  rw [List.take_succ_eq_append_getElem hk, List.take_succ_eq_append_getElem hk2, List.zip_append (by simp; omega)]
  simp
theorem kinds_take {qs : List (Nat × List (Nat × Nat))} {kd : List Nat} (h : KindsOK qs kd) (k : Nat) : KindsOK (qs.take k) (kd.take k) := by
  refine ⟨by simp [h.1], fun i q x a b => ?_⟩
  rw [List.getElem?_take] at a b
  split at a
  · rename_i hi
    rw [if_pos hi] at b
    exact h.2 i q x a b
  · cases a
theorem sum_take_le : ∀ (qs : List (Nat × List (Nat × Nat))) (k : Nat), ((qs.take k).map fun q => rgCard q.2).sum ≤ (qs.map fun q => rgCard q.2).sum
  | [], k => by simp
  | q :: l, 0 => by simp
  | q :: l, k + 1 => by have := sum_take_le l k; simp only [List.take_succ_cons, List.map_cons, List.sum_cons]; omega
/-- The bodies up to part k are few. -/
theorem bodies_small {qs : List (Nat × List (Nat × Nat))} {kd : List Nat} (h : ∀ q ∈ qs, q.2 ≠ []) (hk : KindsOK qs kd) (k : Nat) : (bodiesOf (qs.take k) (kd.take k)).flatten.length ≤ 6 * (qs.map fun q => rgCard q.2).sum := by
  have h1 := bodies_le (qs.take k) (kd.take k) (fun q hq => h q (List.mem_of_mem_take hq)) (kinds_take hk k)
  have h2 := sum_take_le qs k
  omega
end Go.Roar

namespace Go.Roar
open Go.RowKit Go.Proofs

theorem cell_lt {w : World} {p : Addr} {v : Value} (h : w.cell? p = some v) : p.block < w.heap.size := by
  rcases Nat.lt_or_ge p.block w.heap.size with hl | hl
  · exact hl
  · simp [World.cell?, Array.getElem?_eq_none hl] at h
/-- A slice that reads parts, in blocks from 'lo' on. -/
def PV (w : World) (lo : Nat) (v : Value) (qs : List (Nat × List (Nat × Nat))) : Prop :=
  ∃ A c, v = .slice A qs.length c ∧ ∀ (i : Nat) (q : Nat × List (Nat × Nat)), qs[i]? = some q → ∃ g u, A = some ⟨g, 0, none⟩ ∧ w.cell? ⟨g, i * 2, none⟩ = some (.int .i64 (q.1 : Int)) ∧ w.cell? ⟨g, i * 2 + 1, none⟩ = some u ∧ RV w u q.2 ∧ lo ≤ g ∧ ∀ b ∈ blkOf u, lo ≤ b ∧ b < w.heap.size
theorem PV.kept {S : Nat → Prop} {w w' : World} {lo : Nat} {v : Value} {qs : List (Nat × List (Nat × Nat))} (h : PV w lo v qs) (hk : Kept S w w') (hs : ∀ b, lo ≤ b → b < w.heap.size → ¬ S b) : PV w' lo v qs := by
  obtain ⟨A, c, rfl, h⟩ := h
  refine ⟨A, c, rfl, fun i q hq => ?_⟩
  obtain ⟨g, u, rfl, h1, h2, h3, h4, h5⟩ := h i q hq
  have hg := hs g h4 (cell_lt h1)
  exact ⟨g, u, rfl, hk.cell2 hg h1, hk.cell2 hg h2, h3.kept hk (fun b hb => hs b (h5 b hb).1 (h5 b hb).2), h4, fun b hb => ⟨(h5 b hb).1, Nat.lt_of_lt_of_le (h5 b hb).2 hk.size⟩⟩
theorem PV.mild {w w' : World} {lo : Nat} {v : Value} {qs : List (Nat × List (Nat × Nat))} (h : PV w lo v qs) (hk : Mild w w') : PV w' lo v qs := h.kept hk (fun _ _ _ => id)

/-- Parts as cells, us their slices. -/
def pcs (qs : List (Nat × List (Nat × Nat))) (us : List Value) : List Value := (qs.zip us).flatMap fun x => [.int .i64 ((x.1.1 : Nat) : Int), x.2]
theorem pcs_append {a b : List (Nat × List (Nat × Nat))} {us vs : List Value} (h : us.length = a.length) : pcs (a ++ b) (us ++ vs) = pcs a us ++ pcs b vs := by
  unfold pcs
  rw [List.zip_append h.symm, List.flatMap_append]
theorem pcs_length {a : List (Nat × List (Nat × Nat))} {us : List Value} (h : us.length = a.length) : (pcs a us).length = a.length * 2 := by
  unfold pcs
  rw [flatMap_length _ 2 (fun _ => rfl), List.length_zip]
  omega
theorem pcs_at {qs : List (Nat × List (Nat × Nat))} {us : List Value} {i : Nat} {q : Nat × List (Nat × Nat)} {u : Value} (hq : qs[i]? = some q) (hu : us[i]? = some u) : (pcs qs us)[i * 2]? = some (.int .i64 (q.1 : Int)) ∧ (pcs qs us)[i * 2 + 1]? = some u := by
  have e : (pcs qs us).drop (2 * i) = ((qs.zip us).drop i).flatMap fun x => [.int .i64 ((x.1.1 : Nat) : Int), x.2] := flatMap_drop _ 2 (fun _ => rfl) (qs.zip us) i
  have hz : (qs.zip us)[i]? = some (q, u) := List.getElem?_zip_eq_some.2 ⟨hq, hu⟩
  obtain ⟨hi, hz⟩ := List.getElem?_eq_some_iff.1 hz
  rw [List.drop_eq_getElem_cons hi, hz, List.flatMap_cons] at e
  constructor
  · have := congrArg (fun l => l[0]?) e
    rw [Nat.mul_comm]
    simpa [List.getElem?_drop] using this
  · have := congrArg (fun l => l[1]?) e
    rw [Nat.mul_comm]
    simpa [List.getElem?_drop] using this

/-- The parts under way: all blocks are their own, none below 'base'. -/
structure PO (w : World) (base : Nat) (v : Value) (qs : List (Nat × List (Nat × Nat))) (us : List Value) : Prop where
  len : us.length = qs.length
  own : Own w 2 32 v qs.length (pcs qs us)
  each : ∀ (i : Nat) (q : Nat × List (Nat × Nat)) (u : Value), qs[i]? = some q → us[i]? = some u → Own w 2 44 u q.2.length (rcs q.2)
  sep : us.Pairwise fun a b => ∀ x ∈ blkOf a, x ∉ blkOf b
  off : ∀ u ∈ us, ∀ x ∈ blkOf u, x ∉ blkOf v
  above : (∀ b ∈ blkOf v, base ≤ b) ∧ ∀ u ∈ us, ∀ b ∈ blkOf u, base ≤ b
theorem PO.mild {w w' : World} {base : Nat} {v : Value} {qs : List (Nat × List (Nat × Nat))} {us : List Value} (h : PO w base v qs us) (k : Mild w w') : PO w' base v qs us :=
  ⟨h.len, h.own.kept k (fun _ _ => id), fun i q u a b => (h.each i q u a b).kept k (fun _ _ => id), h.sep, h.off, h.above⟩
theorem PO.lt {w : World} {base : Nat} {v : Value} {qs : List (Nat × List (Nat × Nat))} {us : List Value} (h : PO w base v qs us) : ∀ u ∈ us, ∀ x ∈ blkOf u, x < w.heap.size := by
  intro u hu x hx
  obtain ⟨i, hi, rfl⟩ := List.getElem_of_mem hu
  have hl : i < qs.length := by rw [← h.len]; exact hi
  exact (h.each i _ _ (List.getElem?_eq_getElem hl) (List.getElem?_eq_getElem hi)).lt x hx
theorem PO.push {w wA w4 : World} {base : Nat} {v v' u : Value} {qs : List (Nat × List (Nat × Nat))} {us : List Value} {q : Nat × List (Nat × Nat)} (h : PO w base v qs us) (kA : Mild w wA)
    (hu : Own wA 2 44 u q.2.length (rcs q.2)) (hub : ∀ b ∈ blkOf u, w.heap.size ≤ b) (kB : Kept (· ∈ blkOf v) wA w4)
    (ho : Own w4 2 32 v' (qs.length + 1) (pcs qs us ++ [.int .i64 (q.1 : Int), u])) (hat : ∀ b ∈ blkOf v', b ∈ blkOf v ∨ wA.heap.size ≤ b) (hb : base ≤ w.heap.size) : PO w4 base v' (qs ++ [q]) (us ++ [u]) := by
  have h1 := h.mild kA
  have sz := kA.size
  have vlt := h.own.lt
  have ult := hu.lt
  refine ⟨by simp [h.len], ?_, ?_, ?_, ?_, ?_, ?_⟩
  · rw [List.length_append, pcs_append h.len]; exact ho
  · intro i q' u' hq hu'
    by_cases hi : i < qs.length
    · rw [List.getElem?_append_left hi] at hq
      rw [List.getElem?_append_left (by rw [h.len]; exact hi)] at hu'
      exact (h1.each i q' u' hq hu').kept kB (fun b hb => h.off u' (List.mem_of_getElem? hu') b hb)
    · rw [List.getElem?_append_right (by omega)] at hq
      rw [List.getElem?_append_right (by rw [h.len]; omega)] at hu'
      have e : i - qs.length = 0 := by have := (List.getElem?_eq_some_iff.1 hq).1; simp at this; omega
      rw [e] at hq; rw [h.len, e] at hu'
      simp at hq hu'; subst hq hu'
      exact hu.kept kB (fun b hb hv => by have := hub b hb; have := vlt b hv; omega)
  · refine List.pairwise_append.2 ⟨h.sep, by simp, ?_⟩
    intro a ha b hb x hx hx'
    simp at hb; subst hb
    have := h.lt a ha x hx
    have := hub x hx'
    omega
  · intro a ha x hx hv
    rcases List.mem_append.1 ha with ha | ha
    · rcases hat x hv with hv | hv
      · exact h.off a ha x hx hv
      · have := h.lt a ha x hx; omega
    · simp at ha; subst ha
      rcases hat x hv with hv | hv
      · have := hub x hx; have := vlt x hv; omega
      · have := ult x hx; omega
  · intro b hb'
    rcases hat b hb' with hv | hv
    · exact h.above.1 b hv
    · omega
  · intro a ha x hx
    rcases List.mem_append.1 ha with ha | ha
    · exact h.above.2 a ha x hx
    · simp at ha; subst ha
      have := hub x hx; omega

theorem Own.setCell {w : World} {size : Nat} {e : TypeId} {g n c : Nat} {xs : List Value} (h : Own w size e (.slice (some ⟨g, 0, none⟩) n c) n xs) (i : Nat) (u : Value) (hi : i < xs.length) :
    Own (w.setCell ⟨g, i, none⟩ u) size e (.slice (some ⟨g, 0, none⟩) n c) n (xs.set i u) := by
  rcases h.2 with ⟨h0, _⟩ | ⟨g', k, r, hv, hr, hm, hb⟩
  · cases h0
  · obtain ⟨rfl, rfl⟩ : g' = g ∧ c = n + k := by simp at hv; exact ⟨hv.1.symm, hv.2⟩
    refine ⟨by rw [List.length_set]; exact h.1, .inr ⟨g', k, r, rfl, hr, hm, ?_⟩⟩
    have := hb.set i u
    rw [List.set_append_left _ _ hi] at this
    exact this
theorem PO.grow {w wA w4 : World} {base g n c k : Nat} {u u' : Value} {m : List (Nat × List (Nat × Nat))} {l : List (Nat × Nat)} {r : Nat × Nat} {us : List Value} (h : PO w base (.slice (some ⟨g, 0, none⟩) n c) (m ++ [(k, l)]) (us ++ [u])) (kA : Mild w wA)
    (kB : Kept (· ∈ blkOf u) wA w4) (ho : Own w4 2 44 u' (l.length + 1) (rcs l ++ [.int .i64 (r.1 : Int), .int .i64 (r.2 : Int)])) (hat : ∀ b ∈ blkOf u', b ∈ blkOf u ∨ wA.heap.size ≤ b) (hb : base ≤ w.heap.size) :
    PO (w4.setCell ⟨g, m.length * 2 + 1, none⟩ u') base (.slice (some ⟨g, 0, none⟩) n c) (m ++ [(k, l ++ [r])]) (us ++ [u']) := by
  have h1 := h.mild kA
  have sz := kA.size
  have vlt := h.own.lt
  have hlen : us.length = m.length := by have := h.len; simpa using this
  have hn : n = m.length + 1 := by
    have := h.own.2
    rcases this with ⟨h0, _⟩ | ⟨g', k, r, hv, _⟩
    · cases h0
    · simp at hv; exact hv.2.1
  subst hn
  have hug : g ∉ blkOf u := fun hx => h.off u (by simp) g hx (by simp)
  have hug' : g ∉ blkOf u' := fun hx => by
    rcases hat g hx with h | h
    · exact hug h
    · have := vlt g (by simp); omega
  have hothers : ∀ a ∈ us, ∀ x ∈ blkOf a, x ∉ blkOf u := fun a ha x hx => (List.pairwise_append.1 h.sep).2.2 a ha u (by simp) x hx
  have kS : Kept (· = g) w4 (w4.setCell ⟨g, m.length * 2 + 1, none⟩ u') := Kept.setCell (S := (· = g)) (p := ⟨g, m.length * 2 + 1, none⟩) (Kept.refl _ _) (fun _ => rfl) _
  refine ⟨by simp [hlen], ?_, ?_, ?_, ?_, ?_, ?_⟩
  · have o4 := h1.own.kept kB (fun b hb hx => by simp at hb; subst hb; exact hug hx)
    rw [List.length_append] at o4 ⊢
    have o5 := Own.setCell o4 (m.length * 2 + 1) u' (by rw [pcs_length (by simp [hlen])]; simp; omega)
    rw [pcs_append hlen] at o5 ⊢
    rw [List.set_append_right _ _ (by rw [pcs_length hlen]; omega), pcs_length hlen, show m.length * 2 + 1 - m.length * 2 = 1 by omega] at o5
    exact o5
  · intro i q' a hq ha
    by_cases hi : i < m.length
    · rw [List.getElem?_append_left hi] at hq
      rw [List.getElem?_append_left (by rw [hlen]; exact hi)] at ha
      have ham := List.mem_of_getElem? ha
      refine ((h1.each i q' a (by rw [List.getElem?_append_left hi]; exact hq) (by rw [List.getElem?_append_left (by rw [hlen]; exact hi)]; exact ha)).kept kB (fun b hb => hothers a ham b hb)).kept kS ?_
      intro b hb he
      exact h.off a (by simp [ham]) b hb (by simp [he])
    · rw [List.getElem?_append_right (by omega)] at hq
      rw [List.getElem?_append_right (by rw [hlen]; omega)] at ha
      have e : i - m.length = 0 := by have := (List.getElem?_eq_some_iff.1 hq).1; simp at this; omega
      rw [e] at hq; rw [hlen, e] at ha
      simp at hq ha; subst hq ha
      have ho' : Own w4 2 44 u' (l ++ [r]).length (rcs (l ++ [r])) := by rw [List.length_append, rcs_append]; exact ho
      exact ho'.kept kS (fun b hb he => hug' (he ▸ hb))
  · refine List.pairwise_append.2 ⟨(List.pairwise_append.1 h.sep).1, by simp, ?_⟩
    intro a ha b hb x hx hx'
    simp at hb; subst hb
    rcases hat x hx' with h' | h'
    · exact hothers a ha x hx h'
    · have := h.lt a (by simp [ha]) x hx; omega
  · intro a ha x hx hv
    rcases List.mem_append.1 ha with ha | ha
    · exact h.off a (by simp [ha]) x hx hv
    · simp at ha; subst ha
      simp at hv; subst hv
      exact hug' hx
  · exact h.above.1
  · intro a ha x hx
    rcases List.mem_append.1 ha with ha | ha
    · exact h.above.2 a (by simp [ha]) x hx
    · simp at ha; subst ha
      rcases hat x hx with h' | h'
      · exact h.above.2 u (by simp) x h'
      · omega
theorem PO.pv {w : World} {base : Nat} {v : Value} {qs : List (Nat × List (Nat × Nat))} {us : List Value} (h : PO w base v qs us) : PV w base v qs := by
  rcases h.own.2 with ⟨rfl, h0⟩ | ⟨g, k, r, rfl, hr, hm, hb⟩
  · obtain rfl := List.eq_nil_of_length_eq_zero h0
    exact ⟨_, _, rfl, by simp⟩
  · refine ⟨_, _, rfl, fun i q hq => ?_⟩
    have hi := (List.getElem?_eq_some_iff.1 hq).1
    have hu : us[i]? = some (us[i]'(by rw [h.len]; exact hi)) := List.getElem?_eq_getElem _
    obtain ⟨e1, e2⟩ := pcs_at hq hu
    have hmem := List.mem_of_getElem? hu
    refine ⟨g, _, rfl, ?_, ?_, RV.own (h.each i q _ hq hu), h.above.1 g (by simp), fun b hb' => ⟨h.above.2 _ hmem b hb', h.lt _ hmem b hb'⟩⟩
    · exact (hb.cell _).trans (by rw [List.getElem?_append_left (List.getElem?_eq_some_iff.1 e1).1]; exact e1)
    · exact (hb.cell _).trans (by rw [List.getElem?_append_left (List.getElem?_eq_some_iff.1 e2).1]; exact e2)
theorem PO.start (w : World) : PO (w.alloc (.cells #[] 32)) w.heap.size (.slice (some ⟨w.heap.size, 0, none⟩) 0 0) [] [] :=
  ⟨rfl, ⟨rfl, .inr ⟨w.heap.size, 0, [], rfl, rfl, Nat.zero_le _, Blk.new w _ []⟩⟩, by simp, by simp, by simp, by simp⟩
end Go.Roar

namespace Go.Proofs
open Go.RowKit Go.Roar

def MadeC : Prop := ∀ (u : Value) (rs : List (Nat × Nat)) (w : World), RV w u rs → (∀ r ∈ rs, r.1 < 4294967296 ∧ r.2 < 4294967296) → rs.length ≤ 1000000 →
    Calls Tryz.prog 11 #[u] w fun e w' => ∃ v s, e = .returned v ∧ Own w' 2 44 v s.length (rcs s) ∧ RgOK 4294967296 s ∧ rgCard s ≤ rgCard (keep rs) ∧ s.length ≤ rs.length ∧ Mild w w' ∧ (∀ b ∈ blkOf v, w.heap.size ≤ b)

def PartsC : Prop := ∀ (u : Value) (s : List (Nat × Nat)) (w : World), RV w u s → RgOK 4294967296 s → s.length ≤ 1000 →
    Calls Tryz.prog 5 #[u] w fun e w' => ∃ v, e = .returned v ∧ PV w' w.heap.size v (partsOf s) ∧ Mild w w'

/-- A slice that reads wide numbers. -/
def KV (w : World) (v : Value) (l : List Nat) : Prop :=
  ∃ A c, v = .slice A l.length c ∧ ∀ (i k : Nat), l[i]? = some k → ∃ g, A = some ⟨g, 0, none⟩ ∧ w.cell? ⟨g, i, none⟩ = some (.int .i64 (k : Int))
theorem KV.mild {w w' : World} {v : Value} {l : List Nat} (h : KV w v l) (hk : Mild w w') : KV w' v l := by
  obtain ⟨A, c, rfl, h⟩ := h
  refine ⟨A, c, rfl, fun i k hi => ?_⟩
  obtain ⟨g, rfl, h1⟩ := h i k hi
  exact ⟨g, rfl, hk.cell2 id h1⟩
theorem KV.own {w : World} {v : Value} {l : List Nat} (h : Own w 1 3 v l.length (i64s l)) : KV w v l := by
  rcases h.2 with ⟨rfl, h0⟩ | ⟨g, k, r, rfl, hr, hm, hb⟩
  · obtain rfl := List.eq_nil_of_length_eq_zero h0
    exact ⟨_, _, rfl, by simp⟩
  · refine ⟨_, _, rfl, fun i x hx => ⟨g, rfl, ?_⟩⟩
    have e : (i64s l)[i]? = some (.int .i64 (x : Int)) := by simp [i64s, hx]
    exact (hb.cell _).trans (by rw [List.getElem?_append_left (List.getElem?_eq_some_iff.1 e).1]; exact e)

def BytesC : Prop := ∀ (u : Value) (s : List (Nat × Nat)) (kv : Value) (kd : List Nat) (w : World), RV w u s → RgOK 4294967296 s → s.length ≤ 1000 → rgCard s ≤ 200000 → KV w kv kd → KindsOK (partsOf s) kd →
    Calls Tryz.prog 7 #[u, kv] w fun e w' => ∃ v offs, e = .returned v ∧ Own w' 1 5 v (wholeOf (partsOf s) kd offs).length (u8s (wholeOf (partsOf s) kd offs)) ∧ offs.length = offLen kd ∧ (∀ b ∈ offs, b < 256) ∧ (wholeOf (partsOf s) kd offs).length ≤ 1000000000 ∧ Mild w w'

/-- A slice that came in, that reads spans. -/
def SG (w : World) (v : Value) (rs : List (Nat × Nat)) : Prop :=
  ∃ A c, v = .slice A rs.length c ∧ ∀ (i : Nat) (r : Nat × Nat), rs[i]? = some r → ∃ a : Addr, A = some a ∧ w.cell? (a.add (i * 2)) = some (.int .u32 (r.1 : Int)) ∧ w.cell? (a.add (i * 2 + 1)) = some (.int .u32 (r.2 : Int))

def SetC : Prop := ∀ (u : Value) (rs : List (Nat × Nat)) (w : World), SG w u rs → (∀ r ∈ rs, r.1 < 4294967296 ∧ r.2 < 4294967296) → rs.length ≤ 2147483647 →
    Calls Tryz.prog 4 #[u] w fun e w' => Mild w w' ∧ ((∃ v, e = .returned (.tuple #[v, .bool false])) ∨ ∃ v s, e = .returned (.tuple #[v, .bool true]) ∧ RV w' v s ∧ RgOK 4294967296 s ∧ rgCard s ≤ 200000 ∧ s.length ≤ 400)
end Go.Proofs
