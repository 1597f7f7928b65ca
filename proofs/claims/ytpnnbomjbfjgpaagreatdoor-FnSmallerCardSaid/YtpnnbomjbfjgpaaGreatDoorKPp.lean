/-
  Plain laws for the walk of spec.Parts; the parts of a set in memory; the contract of spec.Parts.
-/
import Derived.Test.YtpnnbomjbfjgpaaGreatDoorJWh
import Derived.Test.YtpnnbomjbfjgpaaGreatDoorJQpl
namespace Go.Roar

/-- The pieces up to range k, and of range r up to the upper bits j. -/
def upto (s : List (Nat × Nat)) (k : Nat) (r : Nat × Nat) (j : Nat) : List (Nat × (Nat × Nat)) := (s.take k).flatMap pieces ++ (List.range' (r.1 / 65536) (j - r.1 / 65536)).map (pieceAt r)
theorem upto_start (s : List (Nat × Nat)) (k : Nat) (r : Nat × Nat) : upto s k r (r.1 / 65536) = (s.take k).flatMap pieces := by simp [upto]
theorem upto_step (s : List (Nat × Nat)) (k : Nat) (r : Nat × Nat) (j : Nat) (h : r.1 / 65536 ≤ j) : (upto s k r (j + 1)).foldl addPiece [] = addPiece ((upto s k r j).foldl addPiece []) (pieceAt r j) := by
  unfold upto
  rw [show j + 1 - r.1 / 65536 = (j - r.1 / 65536) + 1 by omega, List.range'_concat, List.map_append, ← List.append_assoc, List.foldl_append]
  simp only [List.map_cons, List.map_nil, List.foldl_cons, List.foldl_nil]
  rw [show r.1 / 65536 + 1 * (j - r.1 / 65536) = j by omega]
theorem upto_end {s : List (Nat × Nat)} {k : Nat} {r : Nat × Nat} (h : s[k]? = some r) (hr : r.1 ≤ r.2) : upto s k r (r.2 / 65536 + 1) = (s.take (k + 1)).flatMap pieces := by
  obtain ⟨hk, rfl⟩ := List.getElem?_eq_some_iff.1 h
  unfold upto
  rw [List.take_succ_eq_append_getElem hk, List.flatMap_append]
  congr 1
  rw [List.flatMap_cons, List.flatMap_nil, List.append_nil]
  unfold pieces
  rw [show s[k].2 / 65536 + 1 - s[k].1 / 65536 = s[k].2 / 65536 - s[k].1 / 65536 + 1 by omega]
theorem pieces_length (r : Nat × Nat) : (pieces r).length = r.2 / 65536 - r.1 / 65536 + 1 := by simp [pieces]
theorem flat_length {s : List (Nat × Nat)} (h : ∀ r ∈ s, r.2 < 4294967296) : (s.flatMap pieces).length ≤ s.length * 65536 := by
  induction s with
  | nil => simp
  | cons r l ih =>
    have h1 := h r (by simp)
    have h2 := ih (fun x hx => h x (by simp [hx]))
    rw [List.flatMap_cons, List.length_append, pieces_length, List.length_cons]
    omega
theorem addPiece_new {out : List (Nat × List (Nat × Nat))} {p : Nat × (Nat × Nat)} (h : ∀ m q, out = m ++ [q] → q.1 ≠ p.1) : addPiece out p = out ++ [(p.1, [p.2])] := by
  rcases List.eq_nil_or_concat out with rfl | ⟨o, ⟨k, l⟩, rfl⟩
  · rfl
  · rw [List.concat_eq_append] at *
    have := h o (k, l) rfl
    simp [addPiece, this]
theorem addPiece_on (o : List (Nat × List (Nat × Nat))) (k : Nat) (l : List (Nat × Nat)) (p : Nat × (Nat × Nat)) (h : k = p.1) : addPiece (o ++ [(k, l)]) p = o ++ [(k, l ++ [p.2])] := by simp [addPiece, h]
theorem addPiece_size : ∀ (ps : List (Nat × (Nat × Nat))) (out : List (Nat × List (Nat × Nat))) (b : Nat), out.length ≤ b → (∀ q ∈ out, q.2.length ≤ b) → (ps.foldl addPiece out).length ≤ b + ps.length ∧ ∀ q ∈ ps.foldl addPiece out, q.2.length ≤ b + ps.length
  | [], out, b, h1, h2 => ⟨by simpa using h1, by simpa using h2⟩
  | p :: ps, out, b, h1, h2 => by
    have h3 : (addPiece out p).length ≤ b + 1 ∧ ∀ q ∈ addPiece out p, q.2.length ≤ b + 1 := by
      by_cases hc : ∀ m q, out = m ++ [q] → q.1 ≠ p.1
      · rw [addPiece_new hc]
        refine ⟨by simp; omega, fun q hq => ?_⟩
        rcases List.mem_append.1 hq with hq | hq
        · have := h2 q hq; omega
        · simp at hq; subst hq; simp
      · simp only [Classical.not_forall, Decidable.not_not] at hc
        obtain ⟨m, ⟨k, l⟩, rfl, he⟩ := hc
        rw [addPiece_on _ _ _ _ he]
        refine ⟨by simp at h1 ⊢; omega, fun q hq => ?_⟩
        rcases List.mem_append.1 hq with hq | hq
        · have := h2 q (by simp [hq]); omega
        · have := h2 (k, l) (by simp)
          simp at hq this; subst hq; simp; omega
    obtain ⟨r1, r2⟩ := addPiece_size ps (addPiece out p) (b + 1) h3.1 h3.2
    simp only [List.foldl_cons, List.length_cons]
    exact ⟨by omega, fun q hq => by have := r2 q hq; omega⟩
theorem upto_length {s : List (Nat × Nat)} {k : Nat} {r : Nat × Nat} {j : Nat} (h : ∀ r ∈ s, r.2 < 4294967296) (hj : j ≤ 65536) : (upto s k r j).length ≤ s.length * 65536 + 65536 := by
  have h1 := flat_length (s := s.take k) (fun x hx => h x (List.mem_of_mem_take hx))
  have h2 : (s.take k).length ≤ s.length := by rw [List.length_take]; omega
  unfold upto
  rw [List.length_append, List.length_map, List.length_range']
  have : (s.take k).length * 65536 ≤ s.length * 65536 := Nat.mul_le_mul_right _ h2
  omega
theorem upto_size {s : List (Nat × Nat)} {k : Nat} {r : Nat × Nat} {j : Nat} (h : ∀ r ∈ s, r.2 < 4294967296) (hj : j ≤ 65536) (hs : s.length ≤ 1000) :
    ((upto s k r j).foldl addPiece []).length ≤ 66000000 ∧ ∀ q ∈ (upto s k r j).foldl addPiece [], q.2.length ≤ 66000000 := by
  have h1 := upto_length (k := k) (r := r) h hj
  obtain ⟨a, b⟩ := addPiece_size (upto s k r j) [] 0 (by simp) (by simp)
  exact ⟨by omega, fun q hq => by have := b q hq; omega⟩

/-- The parts' sizes add up. -/
theorem partNums_length : ∀ (qs : List (Nat × List (Nat × Nat))), (partNums qs).length = (qs.map fun q => rgCard q.2).sum
  | [] => rfl
  | q :: l => by
    have := partNums_length l
    show (partNums ([q] ++ l)).length = _
    rw [partNums_append, List.length_append, this]
    simp [partNums, rgNums_length]
theorem partsOf_card {s : List (Nat × Nat)} (h : RgOK 4294967296 s) : ((partsOf s).map fun q => rgCard q.2).sum = rgCard s := by
  rw [← partNums_length, (partsOf_ok h).2, rgNums_length]
theorem card_pos {l : List (Nat × Nat)} (h : l ≠ []) : l.length ≤ rgCard l ∧ 1 ≤ l.length := by
  constructor
  · clear h
    induction l with
    | nil => simp
    | cons r l ih => rw [rgCard_cons, List.length_cons]; omega
  · cases l with
    | nil => exact absurd rfl h
    | cons => simp
theorem len_le_sum : ∀ (qs : List (Nat × List (Nat × Nat))), (∀ q ∈ qs, q.2 ≠ []) → qs.length ≤ (qs.map fun q => rgCard q.2).sum
  | [], _ => by simp
  | q :: l, h => by
    have := len_le_sum l (fun x hx => h x (by simp [hx]))
    have := card_pos (h q (by simp))
    simp; omega
theorem nums_parts (qs : List (Nat × List (Nat × Nat))) : nums (qs.map fun q => (q.1, rgNums q.2)) = partNums qs := by
  unfold nums partNums
  rw [List.flatMap_map]

end Go.Roar
namespace Go.Roar
open Go.RowKit Go.Proofs

theorem cell_lt {w : World} {p : Addr} {v : Value} (h : w.cell? p = some v) : p.block < w.heap.size := by
  rcases Nat.lt_or_ge p.block w.heap.size with hl | hl
  · exact hl
  · simp [World.cell?, Array.getElem?_eq_none hl] at h
/-- A slice that reads parts, in blocks from 'lo' on. -/
def PV (w : World) (lo : Nat) (v : Value) (qs : List (Nat × List (Nat × Nat))) : Prop :=
  ∃ A c, v = .slice A qs.length c ∧ ∀ (i : Nat) (q : Nat × List (Nat × Nat)), qs[i]? = some q → ∃ g u, A = some ⟨g, 0, none⟩ ∧ w.cell? ⟨g, i * 2, none⟩ = some (.int .i64 (q.1 : Int)) ∧ w.cell? ⟨g, i * 2 + 1, none⟩ = some u ∧ RV w u q.2 ∧ lo ≤ g ∧ ∀ b ∈ blkOf u, lo ≤ b ∧ b < w.heap.size
theorem PV.kept {S : Nat → Prop} {w w' : World} {lo : Nat} {v : Value} {qs : List (Nat × List (Nat × Nat))} (h : PV w lo v qs) (hk : Kept S w w') (hs : ∀ b, lo ≤ b → b < w.heap.size → ¬ S b) : PV w' lo v qs := by
  obtain ⟨A, c, rfl, h⟩ := h
  refine ⟨A, c, rfl, fun i q hq => ?_⟩
  obtain ⟨g, u, rfl, h1, h2, h3, h4, h5⟩ := h i q hq
  have hg := hs g h4 (cell_lt h1)
  exact ⟨g, u, rfl, hk.cell2 hg h1, hk.cell2 hg h2, h3.kept hk (fun b hb => hs b (h5 b hb).1 (h5 b hb).2), h4, fun b hb => ⟨(h5 b hb).1, Nat.lt_of_lt_of_le (h5 b hb).2 hk.size⟩⟩
theorem PV.mild {w w' : World} {lo : Nat} {v : Value} {qs : List (Nat × List (Nat × Nat))} (h : PV w lo v qs) (hk : Mild w w') : PV w' lo v qs := h.kept hk (fun _ _ _ => id)

/-- Parts as cells, us their slices. -/
def pcs (qs : List (Nat × List (Nat × Nat))) (us : List Value) : List Value := (qs.zip us).flatMap fun x => [.int .i64 ((x.1.1 : Nat) : Int), x.2]
theorem pcs_append {a b : List (Nat × List (Nat × Nat))} {us vs : List Value} (h : us.length = a.length) : pcs (a ++ b) (us ++ vs) = pcs a us ++ pcs b vs := by
  unfold pcs
  rw [List.zip_append h.symm, List.flatMap_append]
theorem pcs_length {a : List (Nat × List (Nat × Nat))} {us : List Value} (h : us.length = a.length) : (pcs a us).length = a.length * 2 := by
  unfold pcs
  rw [flatMap_length _ 2 (fun _ => rfl), List.length_zip]
  omega
theorem pcs_at {qs : List (Nat × List (Nat × Nat))} {us : List Value} {i : Nat} {q : Nat × List (Nat × Nat)} {u : Value} (hq : qs[i]? = some q) (hu : us[i]? = some u) : (pcs qs us)[i * 2]? = some (.int .i64 (q.1 : Int)) ∧ (pcs qs us)[i * 2 + 1]? = some u := by
  have e : (pcs qs us).drop (2 * i) = ((qs.zip us).drop i).flatMap fun x => [.int .i64 ((x.1.1 : Nat) : Int), x.2] := flatMap_drop _ 2 (fun _ => rfl) (qs.zip us) i
  have hz : (qs.zip us)[i]? = some (q, u) := List.getElem?_zip_eq_some.2 ⟨hq, hu⟩
  obtain ⟨hi, hz⟩ := List.getElem?_eq_some_iff.1 hz
  rw [List.drop_eq_getElem_cons hi, hz, List.flatMap_cons] at e
  constructor
  · have := congrArg (fun l => l[0]?) e
    rw [Nat.mul_comm]
    simpa [List.getElem?_drop] using this
  · have := congrArg (fun l => l[1]?) e
    rw [Nat.mul_comm]
    simpa [List.getElem?_drop] using this

/-- The parts under way: all blocks are their own, none below 'base'. -/
structure PO (w : World) (base : Nat) (v : Value) (qs : List (Nat × List (Nat × Nat))) (us : List Value) : Prop where
  len : us.length = qs.length
  own : Own w 2 32 v qs.length (pcs qs us)
  each : ∀ (i : Nat) (q : Nat × List (Nat × Nat)) (u : Value), qs[i]? = some q → us[i]? = some u → Own w 2 40 u q.2.length (rcs q.2)
  sep : us.Pairwise fun a b => ∀ x ∈ blkOf a, x ∉ blkOf b
  off : ∀ u ∈ us, ∀ x ∈ blkOf u, x ∉ blkOf v
  above : (∀ b ∈ blkOf v, base ≤ b) ∧ ∀ u ∈ us, ∀ b ∈ blkOf u, base ≤ b
theorem PO.mild {w w' : World} {base : Nat} {v : Value} {qs : List (Nat × List (Nat × Nat))} {us : List Value} (h : PO w base v qs us) (k : Mild w w') : PO w' base v qs us :=
  ⟨h.len, h.own.kept k (fun _ _ => id), fun i q u a b => (h.each i q u a b).kept k (fun _ _ => id), h.sep, h.off, h.above⟩
theorem PO.lt {w : World} {base : Nat} {v : Value} {qs : List (Nat × List (Nat × Nat))} {us : List Value} (h : PO w base v qs us) : ∀ u ∈ us, ∀ x ∈ blkOf u, x < w.heap.size := by
  intro u hu x hx
  obtain ⟨i, hi, rfl⟩ := List.getElem_of_mem hu
  have hl : i < qs.length := by rw [← h.len]; exact hi
  exact (h.each i _ _ (List.getElem?_eq_getElem hl) (List.getElem?_eq_getElem hi)).lt x hx
theorem PO.push {w wA w4 : World} {base : Nat} {v v' u : Value} {qs : List (Nat × List (Nat × Nat))} {us : List Value} {q : Nat × List (Nat × Nat)} (h : PO w base v qs us) (kA : Mild w wA)
    (hu : Own wA 2 40 u q.2.length (rcs q.2)) (hub : ∀ b ∈ blkOf u, w.heap.size ≤ b) (kB : Kept (· ∈ blkOf v) wA w4)
    (ho : Own w4 2 32 v' (qs.length + 1) (pcs qs us ++ [.int .i64 (q.1 : Int), u])) (hat : ∀ b ∈ blkOf v', b ∈ blkOf v ∨ wA.heap.size ≤ b) (hb : base ≤ w.heap.size) : PO w4 base v' (qs ++ [q]) (us ++ [u]) := by
  have h1 := h.mild kA
  have sz := kA.size
  have vlt := h.own.lt
  have ult := hu.lt
  refine ⟨by simp [h.len], ?_, ?_, ?_, ?_, ?_, ?_⟩
  · rw [List.length_append, pcs_append h.len]; exact ho
  · intro i q' u' hq hu'
    by_cases hi : i < qs.length
    · rw [List.getElem?_append_left hi] at hq
      rw [List.getElem?_append_left (by rw [h.len]; exact hi)] at hu'
      exact (h1.each i q' u' hq hu').kept kB (fun b hb => h.off u' (List.mem_of_getElem? hu') b hb)
    · rw [List.getElem?_append_right (by omega)] at hq
      rw [List.getElem?_append_right (by rw [h.len]; omega)] at hu'
      have e : i - qs.length = 0 := by have := (List.getElem?_eq_some_iff.1 hq).1; simp at this; omega
      rw [e] at hq; rw [h.len, e] at hu'
      simp at hq hu'; subst hq hu'
      exact hu.kept kB (fun b hb hv => by have := hub b hb; have := vlt b hv; omega)
  · refine List.pairwise_append.2 ⟨h.sep, by simp, ?_⟩
    intro a ha b hb x hx hx'
    simp at hb; subst hb
    have := h.lt a ha x hx
    have := hub x hx'
    omega
  · intro a ha x hx hv
    rcases List.mem_append.1 ha with ha | ha
    · rcases hat x hv with hv | hv
      · exact h.off a ha x hx hv
      · have := h.lt a ha x hx; omega
    · simp at ha; subst ha
      rcases hat x hv with hv | hv
      · have := hub x hx; have := vlt x hv; omega
      · have := ult x hx; omega
  · intro b hb'
    rcases hat b hb' with hv | hv
    · exact h.above.1 b hv
    · omega
  · intro a ha x hx
    rcases List.mem_append.1 ha with ha | ha
    · exact h.above.2 a ha x hx
    · simp at ha; subst ha
      have := hub x hx; omega

theorem PO.grow {w wA w4 : World} {base g n c k : Nat} {u u' : Value} {m : List (Nat × List (Nat × Nat))} {l : List (Nat × Nat)} {r : Nat × Nat} {us : List Value} (h : PO w base (.slice (some ⟨g, 0, none⟩) n c) (m ++ [(k, l)]) (us ++ [u])) (kA : Mild w wA)
    (kB : Kept (· ∈ blkOf u) wA w4) (ho : Own w4 2 40 u' (l.length + 1) (rcs l ++ [.int .i64 (r.1 : Int), .int .i64 (r.2 : Int)])) (hat : ∀ b ∈ blkOf u', b ∈ blkOf u ∨ wA.heap.size ≤ b) (hb : base ≤ w.heap.size) :
    PO (w4.setCell ⟨g, m.length * 2 + 1, none⟩ u') base (.slice (some ⟨g, 0, none⟩) n c) (m ++ [(k, l ++ [r])]) (us ++ [u']) := by
  have h1 := h.mild kA
  have sz := kA.size
  have vlt := h.own.lt
  have hlen : us.length = m.length := by have := h.len; simpa using this
  have hn : n = m.length + 1 := by
    have := h.own.2
    rcases this with ⟨h0, _⟩ | ⟨g', k, r, hv, _⟩
    · cases h0
    · simp at hv; exact hv.2.1
  subst hn
  have hug : g ∉ blkOf u := fun hx => h.off u (by simp) g hx (by simp)
  have hug' : g ∉ blkOf u' := fun hx => by
    rcases hat g hx with h | h
    · exact hug h
    · have := vlt g (by simp); omega
  have hothers : ∀ a ∈ us, ∀ x ∈ blkOf a, x ∉ blkOf u := fun a ha x hx => (List.pairwise_append.1 h.sep).2.2 a ha u (by simp) x hx
  have kS : Kept (· = g) w4 (w4.setCell ⟨g, m.length * 2 + 1, none⟩ u') := Kept.setCell (S := (· = g)) (p := ⟨g, m.length * 2 + 1, none⟩) (Kept.refl _ _) (fun _ => rfl) _
  refine ⟨by simp [hlen], ?_, ?_, ?_, ?_, ?_, ?_⟩
  · have o4 := h1.own.kept kB (fun b hb hx => by simp at hb; subst hb; exact hug hx)
    rw [List.length_append] at o4 ⊢
    have o5 := Own.setCell o4 (m.length * 2 + 1) u' (by rw [pcs_length (by simp [hlen])]; simp; omega)
    rw [pcs_append hlen] at o5 ⊢
    rw [List.set_append_right _ _ (by rw [pcs_length hlen]; omega), pcs_length hlen, show m.length * 2 + 1 - m.length * 2 = 1 by omega] at o5
    exact o5
  · intro i q' a hq ha
    by_cases hi : i < m.length
    · rw [List.getElem?_append_left hi] at hq
      rw [List.getElem?_append_left (by rw [hlen]; exact hi)] at ha
      have ham := List.mem_of_getElem? ha
      refine ((h1.each i q' a (by rw [List.getElem?_append_left hi]; exact hq) (by rw [List.getElem?_append_left (by rw [hlen]; exact hi)]; exact ha)).kept kB (fun b hb => hothers a ham b hb)).kept kS ?_
      intro b hb he
      exact h.off a (by simp [ham]) b hb (by simp [he])
    · rw [List.getElem?_append_right (by omega)] at hq
      rw [List.getElem?_append_right (by rw [hlen]; omega)] at ha
      have e : i - m.length = 0 := by have := (List.getElem?_eq_some_iff.1 hq).1; simp at this; omega
      rw [e] at hq; rw [hlen, e] at ha
      simp at hq ha; subst hq ha
      have ho' : Own w4 2 40 u' (l ++ [r]).length (rcs (l ++ [r])) := by rw [List.length_append, rcs_append]; exact ho
      exact ho'.kept kS (fun b hb he => hug' (he ▸ hb))
  · refine List.pairwise_append.2 ⟨(List.pairwise_append.1 h.sep).1, by simp, ?_⟩
    intro a ha b hb x hx hx'
    simp at hb; subst hb
    rcases hat x hx' with h' | h'
    · exact hothers a ha x hx h'
    · have := h.lt a (by simp [ha]) x hx; omega
  · intro a ha x hx hv
    rcases List.mem_append.1 ha with ha | ha
    · exact h.off a (by simp [ha]) x hx hv
    · simp at ha; subst ha
      simp at hv; subst hv
      exact hug' hx
  · exact h.above.1
  · intro a ha x hx
    rcases List.mem_append.1 ha with ha | ha
    · exact h.above.2 a (by simp [ha]) x hx
    · simp at ha; subst ha
      rcases hat x hx with h' | h'
      · exact h.above.2 u (by simp) x h'
      · omega
theorem PO.pv {w : World} {base : Nat} {v : Value} {qs : List (Nat × List (Nat × Nat))} {us : List Value} (h : PO w base v qs us) : PV w base v qs := by
  rcases h.own.2 with ⟨rfl, h0⟩ | ⟨g, k, r, rfl, hr, hm, hb⟩
  · obtain rfl := List.eq_nil_of_length_eq_zero h0
    exact ⟨_, _, rfl, by simp⟩
  · refine ⟨_, _, rfl, fun i q hq => ?_⟩
    have hi := (List.getElem?_eq_some_iff.1 hq).1
    have hu : us[i]? = some (us[i]'(by rw [h.len]; exact hi)) := List.getElem?_eq_getElem _
    obtain ⟨e1, e2⟩ := pcs_at hq hu
    have hmem := List.mem_of_getElem? hu
    refine ⟨g, _, rfl, ?_, ?_, RV.own (h.each i q _ hq hu), h.above.1 g (by simp), fun b hb' => ⟨h.above.2 _ hmem b hb', h.lt _ hmem b hb'⟩⟩
    · exact (hb.cell _).trans (by rw [List.getElem?_append_left (List.getElem?_eq_some_iff.1 e1).1]; exact e1)
    · exact (hb.cell _).trans (by rw [List.getElem?_append_left (List.getElem?_eq_some_iff.1 e2).1]; exact e2)
theorem PO.start (w : World) : PO (w.alloc (.cells #[] 32)) w.heap.size (.slice (some ⟨w.heap.size, 0, none⟩) 0 0) [] [] :=
  ⟨rfl, ⟨rfl, .inr ⟨w.heap.size, 0, [], rfl, rfl, Nat.zero_le _, Blk.new w _ []⟩⟩, by simp, by simp, by simp, by simp⟩
end Go.Roar
namespace Go.Proofs
open Go.RowKit Go.Roar
def PartsC : Prop := ∀ (u : Value) (s : List (Nat × Nat)) (w : World), RV w u s → RgOK 4294967296 s → s.length ≤ 1000 →
    Calls Tryz.prog 6 #[u] w fun e w' => ∃ v, e = .returned v ∧ PV w' w.heap.size v (partsOf s) ∧ Mild w w'

end Go.Proofs
