/-
  Plain laws for the walk of spec.Parts; the parts of a set in memory; the contract of spec.Parts.
  spec.Parts: the parts of a set.
  spec.Made: a set of ranges (under way: the first loop). Plain laws for the insertion sort's inner loop: one range on its way down, by its place. Plain laws for the walks of spec.Parts and spec.Bytes. The parts of a set in memory: a slice of parts, each with a slice of ranges of its own. What spec.Made, spec.Parts, spec.Bytes and laws.set are to show, by names: each walk leans on the others by these alone.
-/
import Derived.Test.YtanmgknadeoffaaGreatDoorJWh
import Derived.Test.YtanmgknadeoffaaGreatDoorJQpl
import Derived.Test.YtanmgknadeoffaaGreatDoorJSa
import Derived.Test.YtanmgknadeoffaaGreatDoorJFm
import Derived.Deep.DeepCutAuto
import Derived.Deep.RegionHeld3
import Derived.Deep.AppendLies
namespace Go.Roar

/-- The pieces up to range k, and of range r up to the upper bits j. -/
def upto (s : List (Nat × Nat)) (k : Nat) (r : Nat × Nat) (j : Nat) : List (Nat × (Nat × Nat)) := (s.take k).flatMap pieces ++ (List.range' (r.1 / 65536) (j - r.1 / 65536)).map (pieceAt r)
theorem upto_start (s : List (Nat × Nat)) (k : Nat) (r : Nat × Nat) : upto s k r (r.1 / 65536) = (s.take k).flatMap pieces := by simp [upto]
theorem upto_step (s : List (Nat × Nat)) (k : Nat) (r : Nat × Nat) (j : Nat) (h : r.1 / 65536 ≤ j) : (upto s k r (j + 1)).foldl addPiece [] = addPiece ((upto s k r j).foldl addPiece []) (pieceAt r j) := by
  unfold upto
  rw [show j + 1 - r.1 / 65536 = (j - r.1 / 65536) + 1 by omega, List.range'_concat, List.map_append, ← List.append_assoc, List.foldl_append]
  simp only [List.map_cons, List.map_nil, List.foldl_cons, List.foldl_nil]
  rw [show r.1 / 65536 + 1 * (j - r.1 / 65536) = j by omega]
theorem upto_end {s : List (Nat × Nat)} {k : Nat} {r : Nat × Nat} (h : s[k]? = some r) (hr : r.1 ≤ r.2) : upto s k r (r.2 / 65536 + 1) = (s.take (k + 1)).flatMap pieces := by
  obtain ⟨hk, rfl⟩ := List.getElem?_eq_some_iff.1 h
  unfold upto
  rw [List.take_succ_eq_append_getElem hk, List.flatMap_append]
  congr 1
  rw [List.flatMap_cons, List.flatMap_nil, List.append_nil]
  unfold pieces
  rw [show s[k].2 / 65536 + 1 - s[k].1 / 65536 = s[k].2 / 65536 - s[k].1 / 65536 + 1 by omega]
theorem pieces_length (r : Nat × Nat) : (pieces r).length = r.2 / 65536 - r.1 / 65536 + 1 := by simp [pieces]
theorem flat_length {s : List (Nat × Nat)} (h : ∀ r ∈ s, r.2 < 4294967296) : (s.flatMap pieces).length ≤ s.length * 65536 := by
  induction s with
  | nil => simp
  | cons r l ih =>
    have h1 := h r (by simp)
    have h2 := ih (fun x hx => h x (by simp [hx]))
    rw [List.flatMap_cons, List.length_append, pieces_length, List.length_cons]
    omega
theorem addPiece_new {out : List (Nat × List (Nat × Nat))} {p : Nat × (Nat × Nat)} (h : ∀ m q, out = m ++ [q] → q.1 ≠ p.1) : addPiece out p = out ++ [(p.1, [p.2])] := by
  rcases List.eq_nil_or_concat out with rfl | ⟨o, ⟨k, l⟩, rfl⟩
  · rfl
  · rw [List.concat_eq_append] at *
    have := h o (k, l) rfl
    simp [addPiece, this]
theorem addPiece_on (o : List (Nat × List (Nat × Nat))) (k : Nat) (l : List (Nat × Nat)) (p : Nat × (Nat × Nat)) (h : k = p.1) : addPiece (o ++ [(k, l)]) p = o ++ [(k, l ++ [p.2])] := by simp [addPiece, h]
theorem addPiece_size : ∀ (ps : List (Nat × (Nat × Nat))) (out : List (Nat × List (Nat × Nat))) (b : Nat), out.length ≤ b → (∀ q ∈ out, q.2.length ≤ b) → (ps.foldl addPiece out).length ≤ b + ps.length ∧ ∀ q ∈ ps.foldl addPiece out, q.2.length ≤ b + ps.length
  | [], out, b, h1, h2 => ⟨by simpa using h1, by simpa using h2⟩
  | p :: ps, out, b, h1, h2 => by
    have h3 : (addPiece out p).length ≤ b + 1 ∧ ∀ q ∈ addPiece out p, q.2.length ≤ b + 1 := by
      by_cases hc : ∀ m q, out = m ++ [q] → q.1 ≠ p.1
      · rw [addPiece_new hc]
        refine ⟨by simp; omega, fun q hq => ?_⟩
        rcases List.mem_append.1 hq with hq | hq
        · have := h2 q hq; omega
        · simp at hq; subst hq; simp
      · simp only [Classical.not_forall, Decidable.not_not] at hc
        obtain ⟨m, ⟨k, l⟩, rfl, he⟩ := hc
        rw [addPiece_on _ _ _ _ he]
        refine ⟨by simp at h1 ⊢; omega, fun q hq => ?_⟩
        rcases List.mem_append.1 hq with hq | hq
        · have := h2 q (by simp [hq]); omega
        · have := h2 (k, l) (by simp)
          simp at hq this; subst hq; simp; omega
    obtain ⟨r1, r2⟩ := addPiece_size ps (addPiece out p) (b + 1) h3.1 h3.2
    simp only [List.foldl_cons, List.length_cons]
    exact ⟨by omega, fun q hq => by have := r2 q hq; omega⟩
theorem upto_length {s : List (Nat × Nat)} {k : Nat} {r : Nat × Nat} {j : Nat} (h : ∀ r ∈ s, r.2 < 4294967296) (hj : j ≤ 65536) : (upto s k r j).length ≤ s.length * 65536 + 65536 := by
  have h1 := flat_length (s := s.take k) (fun x hx => h x (List.mem_of_mem_take hx))
  have h2 : (s.take k).length ≤ s.length := by rw [List.length_take]; omega
  unfold upto
  rw [List.length_append, List.length_map, List.length_range']
  have : (s.take k).length * 65536 ≤ s.length * 65536 := Nat.mul_le_mul_right _ h2
  omega
theorem upto_size {s : List (Nat × Nat)} {k : Nat} {r : Nat × Nat} {j : Nat} (h : ∀ r ∈ s, r.2 < 4294967296) (hj : j ≤ 65536) (hs : s.length ≤ 1000) :
    ((upto s k r j).foldl addPiece []).length ≤ 66000000 ∧ ∀ q ∈ (upto s k r j).foldl addPiece [], q.2.length ≤ 66000000 := by
  have h1 := upto_length (k := k) (r := r) h hj
  obtain ⟨a, b⟩ := addPiece_size (upto s k r j) [] 0 (by simp) (by simp)
  exact ⟨by omega, fun q hq => by have := b q hq; omega⟩

/-- The parts' sizes add up. -/
theorem partNums_length : ∀ (qs : List (Nat × List (Nat × Nat))), (partNums qs).length = (qs.map fun q => rgCard q.2).sum
  | [] => rfl
  | q :: l => by
    have := partNums_length l
    show (partNums ([q] ++ l)).length = _
    rw [partNums_append, List.length_append, this]
    simp [partNums, rgNums_length]
theorem partsOf_card {s : List (Nat × Nat)} (h : RgOK 4294967296 s) : ((partsOf s).map fun q => rgCard q.2).sum = rgCard s := by
  rw [← partNums_length, (partsOf_ok h).2, rgNums_length]
theorem len_le_sum : ∀ (qs : List (Nat × List (Nat × Nat))), (∀ q ∈ qs, q.2 ≠ []) → qs.length ≤ (qs.map fun q => rgCard q.2).sum
  | [], _ => by simp
  | q :: l, h => by
    have := len_le_sum l (fun x hx => h x (by simp [hx]))
    have := card_pos (h q (by simp))
    simp; omega
theorem nums_parts (qs : List (Nat × List (Nat × Nat))) : nums (qs.map fun q => (q.1, rgNums q.2)) = partNums qs := by
  unfold nums partNums
  rw [List.flatMap_map]

end Go.Roar
namespace Go.Roar
open Go.RowKit Go.Proofs

theorem cell_lt {w : World} {p : Addr} {v : Value} (h : w.cell? p = some v) : p.block < w.heap.size := by
  rcases Nat.lt_or_ge p.block w.heap.size with hl | hl
  · exact hl
  · simp [World.cell?, Array.getElem?_eq_none hl] at h
/-- A slice that reads parts, in blocks from 'lo' on. -/
def PV (w : World) (lo : Nat) (v : Value) (qs : List (Nat × List (Nat × Nat))) : Prop :=
  ∃ A c, v = .slice A qs.length c ∧ ∀ (i : Nat) (q : Nat × List (Nat × Nat)), qs[i]? = some q → ∃ g u, A = some ⟨g, 0, none⟩ ∧ w.cell? ⟨g, i * 2, none⟩ = some (.int .i64 (q.1 : Int)) ∧ w.cell? ⟨g, i * 2 + 1, none⟩ = some u ∧ RV w u q.2 ∧ lo ≤ g ∧ ∀ b ∈ blkOf u, lo ≤ b ∧ b < w.heap.size
theorem PV.kept {S : Nat → Prop} {w w' : World} {lo : Nat} {v : Value} {qs : List (Nat × List (Nat × Nat))} (h : PV w lo v qs) (hk : Kept S w w') (hs : ∀ b, lo ≤ b → b < w.heap.size → ¬ S b) : PV w' lo v qs := by
  obtain ⟨A, c, rfl, h⟩ := h
  refine ⟨A, c, rfl, fun i q hq => ?_⟩
  obtain ⟨g, u, rfl, h1, h2, h3, h4, h5⟩ := h i q hq
  have hg := hs g h4 (cell_lt h1)
  exact ⟨g, u, rfl, hk.cell2 hg h1, hk.cell2 hg h2, h3.kept hk (fun b hb => hs b (h5 b hb).1 (h5 b hb).2), h4, fun b hb => ⟨(h5 b hb).1, Nat.lt_of_lt_of_le (h5 b hb).2 hk.size⟩⟩
theorem PV.mild {w w' : World} {lo : Nat} {v : Value} {qs : List (Nat × List (Nat × Nat))} (h : PV w lo v qs) (hk : Mild w w') : PV w' lo v qs := h.kept hk (fun _ _ _ => id)

/-- Parts as cells, us their slices. -/
def pcs (qs : List (Nat × List (Nat × Nat))) (us : List Value) : List Value := (qs.zip us).flatMap fun x => [.int .i64 ((x.1.1 : Nat) : Int), x.2]
theorem pcs_append {a b : List (Nat × List (Nat × Nat))} {us vs : List Value} (h : us.length = a.length) : pcs (a ++ b) (us ++ vs) = pcs a us ++ pcs b vs := by
  unfold pcs
  rw [List.zip_append h.symm, List.flatMap_append]
theorem pcs_length {a : List (Nat × List (Nat × Nat))} {us : List Value} (h : us.length = a.length) : (pcs a us).length = a.length * 2 := by
  unfold pcs
  rw [flatMap_length _ 2 (fun _ => rfl), List.length_zip]
  omega
theorem pcs_at {qs : List (Nat × List (Nat × Nat))} {us : List Value} {i : Nat} {q : Nat × List (Nat × Nat)} {u : Value} (hq : qs[i]? = some q) (hu : us[i]? = some u) : (pcs qs us)[i * 2]? = some (.int .i64 (q.1 : Int)) ∧ (pcs qs us)[i * 2 + 1]? = some u := by
  have e : (pcs qs us).drop (2 * i) = ((qs.zip us).drop i).flatMap fun x => [.int .i64 ((x.1.1 : Nat) : Int), x.2] := flatMap_drop _ 2 (fun _ => rfl) (qs.zip us) i
  have hz : (qs.zip us)[i]? = some (q, u) := List.getElem?_zip_eq_some.2 ⟨hq, hu⟩
  obtain ⟨hi, hz⟩ := List.getElem?_eq_some_iff.1 hz
  rw [List.drop_eq_getElem_cons hi, hz, List.flatMap_cons] at e
  constructor
  · have := congrArg (fun l => l[0]?) e
    rw [Nat.mul_comm]
    simpa [List.getElem?_drop] using this
  · have := congrArg (fun l => l[1]?) e
    rw [Nat.mul_comm]
    simpa [List.getElem?_drop] using this

/-- The parts under way: all blocks are their own, none below 'base'. -/
structure PO (w : World) (base : Nat) (v : Value) (qs : List (Nat × List (Nat × Nat))) (us : List Value) : Prop where
  len : us.length = qs.length
  own : Own w 2 37 v qs.length (pcs qs us)
  each : ∀ (i : Nat) (q : Nat × List (Nat × Nat)) (u : Value), qs[i]? = some q → us[i]? = some u → Own w 2 50 u q.2.length (rcs q.2)
  sep : us.Pairwise fun a b => ∀ x ∈ blkOf a, x ∉ blkOf b
  off : ∀ u ∈ us, ∀ x ∈ blkOf u, x ∉ blkOf v
  above : (∀ b ∈ blkOf v, base ≤ b) ∧ ∀ u ∈ us, ∀ b ∈ blkOf u, base ≤ b
theorem PO.mild {w w' : World} {base : Nat} {v : Value} {qs : List (Nat × List (Nat × Nat))} {us : List Value} (h : PO w base v qs us) (k : Mild w w') : PO w' base v qs us :=
  ⟨h.len, h.own.kept k (fun _ _ => id), fun i q u a b => (h.each i q u a b).kept k (fun _ _ => id), h.sep, h.off, h.above⟩
theorem PO.lt {w : World} {base : Nat} {v : Value} {qs : List (Nat × List (Nat × Nat))} {us : List Value} (h : PO w base v qs us) : ∀ u ∈ us, ∀ x ∈ blkOf u, x < w.heap.size := by
  intro u hu x hx
  obtain ⟨i, hi, rfl⟩ := List.getElem_of_mem hu
  have hl : i < qs.length := by rw [← h.len]; exact hi
  exact (h.each i _ _ (List.getElem?_eq_getElem hl) (List.getElem?_eq_getElem hi)).lt x hx
theorem PO.push {w wA w4 : World} {base : Nat} {v v' u : Value} {qs : List (Nat × List (Nat × Nat))} {us : List Value} {q : Nat × List (Nat × Nat)} (h : PO w base v qs us) (kA : Mild w wA)
    (hu : Own wA 2 50 u q.2.length (rcs q.2)) (hub : ∀ b ∈ blkOf u, w.heap.size ≤ b) (kB : Kept (· ∈ blkOf v) wA w4)
    (ho : Own w4 2 37 v' (qs.length + 1) (pcs qs us ++ [.int .i64 (q.1 : Int), u])) (hat : ∀ b ∈ blkOf v', b ∈ blkOf v ∨ wA.heap.size ≤ b) (hb : base ≤ w.heap.size) : PO w4 base v' (qs ++ [q]) (us ++ [u]) := by
  have h1 := h.mild kA
  have sz := kA.size
  have vlt := h.own.lt
  have ult := hu.lt
  refine ⟨by simp [h.len], ?_, ?_, ?_, ?_, ?_, ?_⟩
  · rw [List.length_append, pcs_append h.len]; exact ho
  · intro i q' u' hq hu'
    by_cases hi : i < qs.length
    · rw [List.getElem?_append_left hi] at hq
      rw [List.getElem?_append_left (by rw [h.len]; exact hi)] at hu'
      exact (h1.each i q' u' hq hu').kept kB (fun b hb => h.off u' (List.mem_of_getElem? hu') b hb)
    · rw [List.getElem?_append_right (by omega)] at hq
      rw [List.getElem?_append_right (by rw [h.len]; omega)] at hu'
      have e : i - qs.length = 0 := by have := (List.getElem?_eq_some_iff.1 hq).1; simp at this; omega
      rw [e] at hq; rw [h.len, e] at hu'
      simp at hq hu'; subst hq hu'
      exact hu.kept kB (fun b hb hv => by have := hub b hb; have := vlt b hv; omega)
  · refine List.pairwise_append.2 ⟨h.sep, by simp, ?_⟩
    intro a ha b hb x hx hx'
    simp at hb; subst hb
    have := h.lt a ha x hx
    have := hub x hx'
    omega
  · intro a ha x hx hv
    rcases List.mem_append.1 ha with ha | ha
    · rcases hat x hv with hv | hv
      · exact h.off a ha x hx hv
      · have := h.lt a ha x hx; omega
    · simp at ha; subst ha
      rcases hat x hv with hv | hv
      · have := hub x hx; have := vlt x hv; omega
      · have := ult x hx; omega
  · intro b hb'
    rcases hat b hb' with hv | hv
    · exact h.above.1 b hv
    · omega
  · intro a ha x hx
    rcases List.mem_append.1 ha with ha | ha
    · exact h.above.2 a ha x hx
    · simp at ha; subst ha
      have := hub x hx; omega

theorem PO.grow {w wA w4 : World} {base g n c k : Nat} {u u' : Value} {m : List (Nat × List (Nat × Nat))} {l : List (Nat × Nat)} {r : Nat × Nat} {us : List Value} (h : PO w base (.slice (some ⟨g, 0, none⟩) n c) (m ++ [(k, l)]) (us ++ [u])) (kA : Mild w wA)
    (kB : Kept (· ∈ blkOf u) wA w4) (ho : Own w4 2 50 u' (l.length + 1) (rcs l ++ [.int .i64 (r.1 : Int), .int .i64 (r.2 : Int)])) (hat : ∀ b ∈ blkOf u', b ∈ blkOf u ∨ wA.heap.size ≤ b) (hb : base ≤ w.heap.size) :
    PO (w4.setCell ⟨g, m.length * 2 + 1, none⟩ u') base (.slice (some ⟨g, 0, none⟩) n c) (m ++ [(k, l ++ [r])]) (us ++ [u']) := by
  have h1 := h.mild kA
  have sz := kA.size
  have vlt := h.own.lt
  have hlen : us.length = m.length := by have := h.len; simpa using this
  have hn : n = m.length + 1 := by
    have := h.own.2
    rcases this with ⟨h0, _⟩ | ⟨g', k, r, hv, _⟩
    · cases h0
    · simp at hv; exact hv.2.1
  subst hn
  have hug : g ∉ blkOf u := fun hx => h.off u (by simp) g hx (by simp)
  have hug' : g ∉ blkOf u' := fun hx => by
    rcases hat g hx with h | h
    · exact hug h
    · have := vlt g (by simp); omega
  have hothers : ∀ a ∈ us, ∀ x ∈ blkOf a, x ∉ blkOf u := fun a ha x hx => (List.pairwise_append.1 h.sep).2.2 a ha u (by simp) x hx
  have kS : Kept (· = g) w4 (w4.setCell ⟨g, m.length * 2 + 1, none⟩ u') := Kept.setCell (S := (· = g)) (p := ⟨g, m.length * 2 + 1, none⟩) (Kept.refl _ _) (fun _ => rfl) _
  refine ⟨by simp [hlen], ?_, ?_, ?_, ?_, ?_, ?_⟩
  · have o4 := h1.own.kept kB (fun b hb hx => by simp at hb; subst hb; exact hug hx)
    rw [List.length_append] at o4 ⊢
    have o5 := Own.setCell o4 (m.length * 2 + 1) u' (by rw [pcs_length (by simp [hlen])]; simp; omega)
    rw [pcs_append hlen] at o5 ⊢
    rw [List.set_append_right _ _ (by rw [pcs_length hlen]; omega), pcs_length hlen, show m.length * 2 + 1 - m.length * 2 = 1 by omega] at o5
    exact o5
  · intro i q' a hq ha
    by_cases hi : i < m.length
    · rw [List.getElem?_append_left hi] at hq
      rw [List.getElem?_append_left (by rw [hlen]; exact hi)] at ha
      have ham := List.mem_of_getElem? ha
      refine ((h1.each i q' a (by rw [List.getElem?_append_left hi]; exact hq) (by rw [List.getElem?_append_left (by rw [hlen]; exact hi)]; exact ha)).kept kB (fun b hb => hothers a ham b hb)).kept kS ?_
      intro b hb he
      exact h.off a (by simp [ham]) b hb (by simp [he])
    · rw [List.getElem?_append_right (by omega)] at hq
      rw [List.getElem?_append_right (by rw [hlen]; omega)] at ha
      have e : i - m.length = 0 := by have := (List.getElem?_eq_some_iff.1 hq).1; simp at this; omega
      rw [e] at hq; rw [hlen, e] at ha
      simp at hq ha; subst hq ha
      have ho' : Own w4 2 50 u' (l ++ [r]).length (rcs (l ++ [r])) := by rw [List.length_append, rcs_append]; exact ho
      exact ho'.kept kS (fun b hb he => hug' (he ▸ hb))
  · refine List.pairwise_append.2 ⟨(List.pairwise_append.1 h.sep).1, by simp, ?_⟩
    intro a ha b hb x hx hx'
    simp at hb; subst hb
    rcases hat x hx' with h' | h'
    · exact hothers a ha x hx h'
    · have := h.lt a (by simp [ha]) x hx; omega
  · intro a ha x hx hv
    rcases List.mem_append.1 ha with ha | ha
    · exact h.off a (by simp [ha]) x hx hv
    · simp at ha; subst ha
      simp at hv; subst hv
      exact hug' hx
  · exact h.above.1
  · intro a ha x hx
    rcases List.mem_append.1 ha with ha | ha
    · exact h.above.2 a (by simp [ha]) x hx
    · simp at ha; subst ha
      rcases hat x hx with h' | h'
      · exact h.above.2 u (by simp) x h'
      · omega
theorem PO.pv {w : World} {base : Nat} {v : Value} {qs : List (Nat × List (Nat × Nat))} {us : List Value} (h : PO w base v qs us) : PV w base v qs := by
  rcases h.own.2 with ⟨rfl, h0⟩ | ⟨g, k, r, rfl, hr, hm, hb⟩
  · obtain rfl := List.eq_nil_of_length_eq_zero h0
    exact ⟨_, _, rfl, by simp⟩
  · refine ⟨_, _, rfl, fun i q hq => ?_⟩
    have hi := (List.getElem?_eq_some_iff.1 hq).1
    have hu : us[i]? = some (us[i]'(by rw [h.len]; exact hi)) := List.getElem?_eq_getElem _
    obtain ⟨e1, e2⟩ := pcs_at hq hu
    have hmem := List.mem_of_getElem? hu
    refine ⟨g, _, rfl, ?_, ?_, RV.own (h.each i q _ hq hu), h.above.1 g (by simp), fun b hb' => ⟨h.above.2 _ hmem b hb', h.lt _ hmem b hb'⟩⟩
    · exact (hb.cell _).trans (by rw [List.getElem?_append_left (List.getElem?_eq_some_iff.1 e1).1]; exact e1)
    · exact (hb.cell _).trans (by rw [List.getElem?_append_left (List.getElem?_eq_some_iff.1 e2).1]; exact e2)
theorem PO.start (w : World) : PO (w.alloc (.cells #[] 37)) w.heap.size (.slice (some ⟨w.heap.size, 0, none⟩) 0 0) [] [] :=
  ⟨rfl, ⟨rfl, .inr ⟨w.heap.size, 0, [], rfl, rfl, Nat.zero_le _, Blk.new w _ []⟩⟩, by simp, by simp, by simp, by simp⟩
end Go.Roar
namespace Go.Proofs
open Go.RowKit Go.Roar
def PartsC : Prop := ∀ (u : Value) (s : List (Nat × Nat)) (w : World), RV w u s → RgOK 4294967296 s → s.length ≤ 1000 →
    Calls Tryz.prog 9 #[u] w fun e w' => ∃ v, e = .returned v ∧ PV w' w.heap.size v (partsOf s) ∧ Mild w w'

end Go.Proofs

namespace Go.Proofs
open Go.RowKit Go.Roar
theorem infoRangeP : (Tryz.prog.info? 50).map (fun i => (i.zero, i.size, i.bytes)) = some (some (.agg #[.int .i64 0, .int .i64 0]), 2, 16) := by kernel_rfl
theorem undSetP : Tryz.prog.underlying 24 = some (.slice 50) := by kernel_rfl
theorem infoPartP : (Tryz.prog.info? 37).map (fun i => (i.zero, i.size, i.bytes)) = some (some (.agg #[.int .i64 0, .slice none 0 0]), 2, 32) := by kernel_rfl
theorem undPartsP : Tryz.prog.underlying 33 = some (.slice 37) := by kernel_rfl
theorem cell_two_atP (w : World) (x y : Value) (t : TypeId) (q : Nat) (hq : q = w.heap.size) : ∀ j u, [x, y][j]? = some u → (w.alloc (.cells #[x, y] t)).cell? ((⟨q, 0, none⟩ : Addr).add j) = some u := by
  subst hq; exact cell_two_new w x y t
theorem grow_kept {wA w4 : World} {v v' : Value} (hg : wA.grownBy w4 v.ownBlock) (hat : v'.ownBlock = v.ownBlock ∨ v'.ownBlock = some wA.heap.size) : Kept (· ∈ blkOf v) wA w4 ∧ ∀ b ∈ blkOf v', b ∈ blkOf v ∨ wA.heap.size ≤ b := by
  refine ⟨Kept.grown (Kept.refl _ _) hg (fun k hk _ => by unfold blkOf; rw [hk]; simp), fun b hb => ?_⟩
  rcases hat with h | h
  · exact .inl (by unfold blkOf at hb ⊢; rw [← h]; exact hb)
  · exact .inr (by unfold blkOf at hb; rw [h] at hb; simp at hb; exact Nat.le_of_eq hb.symm)
theorem shr16 (x : Nat) : (x : Int) >>> 16 = ((x / 65536 : Nat) : Int) := by
  rw [Int.shiftRight_eq_div_pow]; simp
theorem two_cells (w : World) (t : TypeId) {x y x' y' : Int} (hx : x = x') (hy : y = y') : w.alloc (.cells #[.int .i64 x, .int .i64 y] t) = w.alloc (.cells #[.int .i64 x', .int .i64 y'] t) := by rw [hx, hy]

set_option maxRecDepth 100000 in
set_option maxHeartbeats 4000000 in
theorem parts_any : PartsC := by
  intro u s w hu hr hl
  obtain ⟨iR, zz1, zz2, zz3, zz4⟩ := info_parts infoRangeP
  obtain ⟨iP, q1, q2, q3, q4⟩ := info_parts infoPartP
  obtain ⟨B, d, rfl, hu⟩ := hu
  have Hu := Lib.hid hu
  have Hr := Lib.hid hr
  clear hu hr
  generalize hln : s.length = nr at *
  have Hl := Lib.hid hln
  clear hln
  have P0 := Lib.hid (PO.start w)
  have M0 : Hid (Mild w (w.alloc (.cells #[] 37))) := Lib.hid ((Kept.refl _ _).alloc _)
  go_enter Tryz.func9, Tryz.ntmps9
  go_wp2_with fail
  go_loopw [12, 3] (fun i v wr => ∃ (k : Nat) (us : List Value), i = .int .i64 k ∧ k ≤ nr ∧ Hid (Mild w wr) ∧ Hid (PO wr w.heap.size v (((s.take k).flatMap pieces).foldl addPiece []) us)) (fun i _ _ => nr - (intOf i).toNat)
  case atStart => exact ⟨0, [], rfl, Nat.zero_le _, M0, P0⟩
  case round =>
    obtain ⟨k, us, rfl, hk, Hm, Hp⟩ := hrel
    by_cases hlt : k < nr
    · obtain ⟨r, hx⟩ : ∃ r, s[k]? = some r := ⟨_, List.getElem?_eq_getElem (by rw [Hl.out]; exact hlt)⟩
      obtain ⟨g, rfl, a1, a2⟩ := Hu.out k r hx
      obtain ⟨r1, r2⟩ := Hr.out.1 r (List.mem_of_getElem? hx)
      have ca := Hm.out.cell2 id a1
      have cb := Hm.out.cell2 id a2
      have i1 : (k : Int) < (nr : Int) := by omega
      have Hend := Lib.hid (upto_end hx r1)
      have Hst := Lib.hid (upto_step s k r)
      have Hsz := Lib.hid (fun (j : Nat) (hj : j ≤ 65536) => upto_size (s := s) (k := k) (r := r) (j := j) (fun x hx => (Hr.out.1 x hx).2) hj (by rw [Hl.out]; exact hl))
      have Hnb := Lib.hid (Blk.new wr 50 [.int .i64 (r.1 : Int), .int .i64 (r.2 : Int)])
      have Hma := Lib.hid (Hm.out.alloc (.cells #[.int .i64 (r.1 : Int), .int .i64 (r.2 : Int)] 50))
      have Hp2 := Lib.hid (Hp.out.mild ((Kept.refl _ _).alloc (.cells #[.int .i64 (r.1 : Int), .int .i64 (r.2 : Int)] 50)))
      have Hq := Lib.hid (show (∀ b ∈ blkOf _, b ≠ wr.heap.size) ∧ ∀ u ∈ us, ∀ b ∈ blkOf u, b ≠ wr.heap.size from ⟨fun b hb => Nat.ne_of_lt (Hp.out.own.lt b hb), fun u hu b hb => Nat.ne_of_lt (Hp.out.lt u hu b hb)⟩)
      have Hq0 := Lib.hid (show w.heap.size ≤ wr.heap.size from Hm.out.size)
      have f1 : (r.1 : Int) >>> 16 = ((r.1 / 65536 : Nat) : Int) := shr16 r.1
      have f2 : (r.2 : Int) >>> 16 = ((r.2 / 65536 : Nat) : Int) := shr16 r.2
      clear a1 a2 hx Hp
      have q1' : r.1 / 65536 ≤ r.2 / 65536 := by omega
      have q2' : r.2 / 65536 < 65536 := by omega
      go_wp2_with fail
      generalize hq : wr.heap.size = q at *
      clear hq
      go_loopw [6, 3] (fun y v wx => ∃ (j : Nat) (us : List Value), y = .int .i64 j ∧ r.1 / 65536 ≤ j ∧ j ≤ r.2 / 65536 + 1 ∧ Hid (Mild w wx) ∧ Hid (PO wx w.heap.size v ((upto s k r j).foldl addPiece []) us) ∧ Hid (Blk wx q 50 [.int .i64 (r.1 : Int), .int .i64 (r.2 : Int)]) ∧ Hid ((∀ b ∈ blkOf v, b ≠ q) ∧ ∀ u ∈ us, ∀ b ∈ blkOf u, b ≠ q)) (fun y _ _ => r.2 / 65536 + 1 - (intOf y).toNat)
      case atStart => exact ⟨r.1 / 65536, us, by simp, Nat.le_refl _, by omega, Hma, by rw [upto_start]; exact Hp2, Hnb, Hq⟩
      case round =>
        obtain ⟨j, us, rfl, j1, j2, Hm2, Hp2, Hb2, Hq2⟩ := hrel
        have g0 := Hb2.out.cell 0
        have g1 := Hb2.out.cell 1
        simp only [List.getElem?_cons_zero, List.getElem?_cons_succ] at g0 g1
        by_cases hjr : j ≤ r.2 / 65536
        · have i2 : decide ((j : Int) ≤ (r.2 : Int) / 65536) = true := by simp; omega
          have hst := Hst.out j j1
          obtain ⟨hz1, hz2⟩ := Hsz.out j (by omega)
          generalize (upto s k r j).foldl addPiece [] = out at *
          obtain ⟨A, c, rfl⟩ := Hp2.out.own.form
          obtain ⟨a0, ha0⟩ : ∃ a0, a0 = r.1 - j * 65536 := ⟨_, rfl⟩
          obtain ⟨b0, hb0⟩ : ∃ b0, b0 = min (r.2 - j * 65536) 65535 := ⟨_, rfl⟩
          have hpc : pieceAt r j = (j, (a0, b0)) := by rw [ha0, hb0]; rfl
          rw [hpc] at hst
          have hst2 := Lib.hid hst
          have Ha0 := Lib.hid ha0
          have Hb0 := Lib.hid hb0
          have Hz1 := Lib.hid hz1
          have Hz2 := Lib.hid hz2
          have hab : a0 ≤ 65535 ∧ b0 ≤ 65535 := by omega
          clear hst hpc ha0 hb0 hz1 hz2
          go_upto_region 8 with fail
          go_cut [7] (fun s7 wx => s7 = .pointer (some ⟨wr.heap.size, 0, none⟩) ∧ wx = wr.alloc (.cells #[.int .i64 (a0 : Int), .int .i64 (b0 : Int)] 50))
          case first =>
            have e1 := Ha0.out
            have e2 := Hb0.out
            clear Ha0 Hb0
            go_wp2_with fail
            all_goals
              go_meet
              case rel => exact ⟨rfl, two_cells _ _ (by omega) (by omega)⟩
          case rest =>
            obtain ⟨rfl, rfl⟩ := hcut
            have kS : Mild wr (wr.alloc (.cells #[.int .i64 (a0 : Int), .int .i64 (b0 : Int)] 50)) := (Kept.refl _ _).alloc _
            have hsn := Blk.new wr 50 [.int .i64 (a0 : Int), .int .i64 (b0 : Int)]
            have HPS := Lib.hid (Hp2.out.mild kS)
            have HMS := Lib.hid (Hm2.out.trans kS)
            have HBS := Lib.hid (Hb2.out.kept kS id)
            have Hlt := Lib.hid Hp2.out
            have Hqz := Lib.hid Hb2.out.lt
            clear kS Hp2 Hm2 Hb2 g0 g1
            have HzS := Lib.hid (show wr.heap.size < (wr.alloc (.cells #[.int .i64 (a0 : Int), .int .i64 (b0 : Int)] 50)).heap.size from hsn.lt)
            have s0 := hsn.cell 0
            have s1 := hsn.cell 1
            simp only [List.getElem?_cons_zero, List.getElem?_cons_succ] at s0 s1
            generalize wr.alloc (Obj.cells #[Value.int IntKind.i64 (a0 : Int), Value.int IntKind.i64 (b0 : Int)] 50) = WS at *
            generalize wr.heap.size = z at *
            clear hsn Hlt
            by_cases hon : ∃ m l, out = m ++ [(j, l)]
            · obtain ⟨m, l, rfl⟩ := hon
              have HO := Lib.hid HPS.out.own
              generalize hol : (m ++ [(j, l)]).length = ol at *
              have Hol := Lib.hid hol
              have hol2 := Hz1.out
              have hml : ol = m.length + 1 := by rw [← hol]; simp
              clear hol
              obtain ⟨us0, u, hus⟩ : ∃ us0 u, us = us0 ++ [u] := by
                rcases List.eq_nil_or_concat us with h | ⟨us0, u, h⟩
                · have := HPS.out.len; rw [h, Hol.out] at this; simp at this; omega
                · exact ⟨us0, u, by rw [h, List.concat_eq_append]⟩
              subst hus
              have hul : us0.length = m.length := by have := HPS.out.len; rw [Hol.out] at this; simp at this; omega
              obtain ⟨g2, k2, rr2, hv2, _, _, hb2⟩ := HO.out.open (by omega)
              obtain ⟨rfl, rfl⟩ : A = some ⟨g2, 0, none⟩ ∧ c = ol + k2 := by simp at hv2; exact hv2
              have hpa := pcs_at (qs := m ++ [(j, l)]) (us := us0 ++ [u]) (i := m.length) (q := (j, l)) (u := u) (by simp) (by rw [← hul]; simp)
              have e1 : (pcs (m ++ [(j, l)]) (us0 ++ [u]) ++ rr2)[m.length * 2]? = some (.int .i64 (j : Int)) := by rw [List.getElem?_append_left (List.getElem?_eq_some_iff.1 hpa.1).1, hpa.1]
              have e2 : (pcs (m ++ [(j, l)]) (us0 ++ [u]) ++ rr2)[m.length * 2 + 1]? = some u := by rw [List.getElem?_append_left (List.getElem?_eq_some_iff.1 hpa.2).1, hpa.2]
              have c0 := (hb2.cell (m.length * 2)).trans e1
              have c1 := (hb2.cell (m.length * 2 + 1)).trans e2
              have HU := Lib.hid (HPS.out.each m.length (j, l) u (by simp) (by rw [← hul]; simp))
              have hll : l.length ≤ 66000000 := Hz2.out (j, l) (by simp)
              have Hoff := Lib.hid (HPS.out.off u (by simp))
              have HB2 := Lib.hid hb2
              have He2 := Lib.hid e2
              have Hmm := Lib.hid (show ∃ ml, ml = m.length from ⟨_, rfl⟩)
              have Hone := Lib.hid (addPiece_on m j l (j, (a0, b0)) rfl)
              have hng : g2 ∉ blkOf u := fun h => HPS.out.off u (by simp) g2 h (by simp)
              have Hng := Lib.hid hng
              obtain ⟨ml, hmm⟩ : ∃ ml, ml = m.length := ⟨_, rfl⟩
              rw [← hmm] at c0 c1 He2 hml
              have Hml := Lib.hid hmm
              obtain ⟨ll, hll2⟩ : ∃ ll, ll = l.length := ⟨_, rfl⟩
              obtain ⟨UA, uc, rfl⟩ := HU.out.form
              dsimp only at HU c1 HO HB2 He2 Hoff Hng HPS Hq2 hng e2
              rw [← hll2] at HU c1 HO HB2 He2 Hoff Hng HPS Hq2 hll
              have Hll := Lib.hid hll2
              have j0 : 0 < ol := by omega
              have j1 : (ol : Int) - 1 = (ml : Int) := by omega
              have j3 : (ml : Int) < (ol : Int) := by omega
              have j4 : IntKind.i64.wrap (ml : Int) = (ml : Int) := IntWalk.i64_in _ (by omega)
              clear hv2 hpa e1 e2 hb2 hng hul hmm hll2
              have Hml2 := Lib.hid hml
              clear hml
              go_wp2_with fail
              have kW1 : Mild WS (WS.alloc (.cells #[.int .i64 (a0 : Int), .int .i64 (b0 : Int)] 50)).drew := ((Kept.refl _ _).alloc _).drew
              have d1 := kW1.cell2 id c1
              clear kW1
              go_region_law (refine step_append_lies _ (by rfl) _ _ _ (by rfl) 0 50 iR (.agg #[.int .i64 0, .int .i64 0]) 2 16 undSetP zz1 zz2 zz3 zz4 rfl (by omega) (.slice UA ll uc) ll (rcs l) (by rfl) (by first | exact (Own_drew (HU.out.alloc _)).toRow | exact ((Own_drew HU.out).alloc _).toRow) ⟨WS.heap.size, 0, none⟩ 1 1 [.int .i64 (a0 : Int), .int .i64 (b0 : Int)] (by rfl) (by rfl) (cell_two_new WS _ _ _) (by intro u hu; simp at hu; rcases hu with rfl | rfl <;> rfl) (by omega) (by unfold maxLen; omega) (by omega) (Nat.zero_le _) _ rfl ?_; intro g5 c5 w5 hown5 hgrow5 hat5 hlt5; have k5 : Kept (fun b => b ∈ blkOf (.slice UA ll uc)) _ w5 := Kept.grown (Kept.refl _ _) hgrow5 (fun kk hkk _ => by unfold blkOf; rw [hkk]; simp); have b5 : Blk w5 g2 37 _ := Blk.kept (HB2.out.alloc (.cells #[.int .i64 (a0 : Int), .int .i64 (b0 : Int)] 50)).drew k5 Hng.out; have s5 := (b5.cell (ml * 2 + 1)).trans He2.out; have f5 := b5.free (ml * 2 + 1))
              all_goals go_wp2_with fail
              all_goals
                have kA : Mild WS (WS.alloc (.cells #[.int .i64 (a0 : Int), .int .i64 (b0 : Int)] 50)).drew := ((Kept.refl _ _).alloc _).drew
                have zA := kA.size
                have zS := HzS.out
                have hqz := Hqz.out
                have own5 := Own.ofRow hown5
                have hat' : ∀ b ∈ blkOf (.slice (some ⟨g5, 0, none⟩) (ll + 1) c5), b ∈ blkOf (.slice UA ll uc) ∨ (WS.alloc (.cells #[.int .i64 (a0 : Int), .int .i64 (b0 : Int)] 50)).drew.heap.size ≤ b := fun b hb => by
                  simp at hb; subst hb
                  rcases hat5 with h | h
                  · exact .inl (by unfold blkOf; rw [h]; simp)
                  · exact .inr (Nat.le_of_eq h.symm)
                have hpo := PO.grow (r := (a0, b0)) HPS.out kA k5 (by rw [← Hll.out]; exact own5) hat' HMS.out.size
                rw [← Hml.out, ← Hone.out, ← hst2.out] at hpo
                have hg2b := HPS.out.above.1 g2 (by simp)
                have hmi : Mild w (w5.setCell ⟨g2, ml * 2 + 1, none⟩ (.slice (some ⟨g5, 0, none⟩) (ll + 1) c5)) := Kept.setCell (p := ⟨g2, ml * 2 + 1, none⟩) (Kept.then (HMS.out.trans kA) k5 (fun b hb hv => absurd (HPS.out.above.2 _ (by simp) b hv) (by omega))) (fun h => absurd h (by show ¬ g2 < _; omega)) _
                have hbq := ((HBS.out.kept kA id).kept k5 (fun h => Hq2.out.2 _ (by simp) q h rfl)).set_ne (fun h => Hq2.out.1 g2 (by simp) h.symm) (ml * 2 + 1) (.slice (some ⟨g5, 0, none⟩) (ll + 1) c5)
                have Hqn := Lib.hid (show (∀ b ∈ blkOf (.slice (some ⟨g2, 0, none⟩) ol (ol + k2)), b ≠ q) ∧ ∀ u ∈ us0 ++ [Value.slice (some ⟨g5, 0, none⟩) (ll + 1) c5], ∀ b ∈ blkOf u, b ≠ q from ⟨Hq2.out.1, fun u hu b hb => by
                  rcases List.mem_append.1 hu with hu | hu
                  · exact Hq2.out.2 u (by simp [hu]) b hb
                  · simp at hu; subst hu
                    rcases hat' b hb with h | h
                    · exact Hq2.out.2 _ (by simp) b h
                    · omega⟩)
                have Hpo := Lib.hid hpo
                have Hmi := Lib.hid hmi
                have Hbq := Lib.hid hbq
                clear hpo hmi hbq hqz zS hat' own5 kA zA hown5 hgrow5 hat5 b5 s5 f5 k5
                go_roundw
                case rel => exact ⟨j + 1, _, by go_num, by omega, by omega, Hmi, Hpo, Hbq, Hqn⟩
                case measure => simp only [intOf]; omega
            · have Hnw := Lib.hid (addPiece_new (out := out) (p := (j, (a0, b0))) (fun m q e => fun hq => hon ⟨m, q.2, by rw [e]; congr 2; exact Prod.ext hq rfl⟩))
              have HO := Lib.hid HPS.out.own
              generalize hol : out.length = ol at *
              have Hol := Lib.hid hol
              have hol2 := Hz1.out
              clear hol
              by_cases h0 : ol = 0
              · subst h0
                go_wp2_with (first
                  | (at_builtin; refine wpList_append_own_at _ rfl _ _ 33 rfl 0 37 iP (.agg #[.int .i64 0, .slice none 0 0]) 2 32 undPartsP q1 q2 q3 q4 rfl (by decide) _ 0 (pcs out us) rfl ((HO.out.alloc _).alloc _).toRow ⟨WS.heap.size + 1, 0, none⟩ 1 1 [.int .i64 (j : Int), .slice (some ⟨WS.heap.size, 0, none⟩) 1 1] rfl rfl (cell_two_atP _ _ _ _ _ (by simp)) (by intro u hu; simp at hu; rcases hu with rfl | rfl <;> rfl) (by unfold maxLen; omega) (by omega) (Nat.zero_le _) ?_; intro v' w4 hown' hgrow hnil hat))
                have own4 := Own.ofRow hown'
                have kA : Mild WS ((WS.alloc (.cells #[.int .i64 (a0 : Int), .int .i64 (b0 : Int)] 50)).alloc (.cells #[.int .i64 (j : Int), .slice (some ⟨WS.heap.size, 0, none⟩) 1 1] 37)) := ((Kept.refl _ _).alloc _).alloc _
                have zA := kA.size
                obtain ⟨kB, hat'⟩ := grow_kept (v := .slice A 0 c) hgrow hat
                have hun : Own _ 2 50 (.slice (some ⟨WS.heap.size, 0, none⟩) 1 1) 1 (rcs [(a0, b0)]) := Own.alloc (w := WS.alloc (.cells #[.int .i64 (a0 : Int), .int .i64 (b0 : Int)] 50)) ⟨rfl, .inr ⟨WS.heap.size, 0, [], rfl, rfl, by unfold maxLen; omega, Blk.new WS _ _⟩⟩ (.cells #[.int .i64 (j : Int), .slice (some ⟨WS.heap.size, 0, none⟩) 1 1] 37)
                have hpo := PO.push (q := (j, [(a0, b0)])) HPS.out kA hun (by intro b hb; simp at hb; omega) kB (by rw [Hol.out]; exact own4) hat' HMS.out.size
                have hmi := Kept.then (HMS.out.trans kA) kB (fun b hb hv => absurd (HPS.out.above.1 b hv) (by omega))
                have hbq := (HBS.out.kept kA id).kept kB (fun h => Hq2.out.1 q h rfl)
                have hqz := Hqz.out
                have zS := HzS.out
                have Hqn := Lib.hid (show (∀ b ∈ blkOf v', b ≠ q) ∧ ∀ u ∈ us ++ [.slice (some ⟨WS.heap.size, 0, none⟩) 1 1], ∀ b ∈ blkOf u, b ≠ q from ⟨fun b hb => by
                  rcases hat' b hb with h | h
                  · exact Hq2.out.1 b h
                  · omega, fun u hu b hb => by
                  rcases List.mem_append.1 hu with hu | hu
                  · exact Hq2.out.2 u hu b hb
                  · simp at hu; subst hu; simp at hb; omega⟩)
                rw [← Hnw.out, ← hst2.out] at hpo
                have Hpo := Lib.hid hpo
                have Hmi := Lib.hid hmi
                have Hbq := Lib.hid hbq
                clear hpo hmi hbq hqz zS hown' hgrow hnil hat hat' hun own4 kA kB zA
                go_roundw
                case rel => exact ⟨j + 1, _, by go_num, by omega, by omega, Hmi, Hpo, Hbq, Hqn⟩
                case measure => simp only [intOf]; omega
              · obtain ⟨m, ⟨kk, l⟩, hout⟩ : ∃ m x, out = m ++ [x] := by
                  rcases List.eq_nil_or_concat out with h | ⟨m, x, h⟩
                  · exact absurd (by rw [← Hol.out, h]; rfl) h0
                  · exact ⟨m, x, by rw [h, List.concat_eq_append]⟩
                have hml : ol = m.length + 1 := by rw [← Hol.out, hout]; simp
                obtain ⟨us0, u, hus⟩ : ∃ us0 u, us = us0 ++ [u] := by
                  rcases List.eq_nil_or_concat us with h | ⟨us0, u, h⟩
                  · have := HPS.out.len; rw [h, Hol.out] at this; simp at this; omega
                  · exact ⟨us0, u, by rw [h, List.concat_eq_append]⟩
                have hul : us0.length = m.length := by have := HPS.out.len; rw [hus, Hol.out] at this; simp at this; omega
                obtain ⟨g2, k2, rr2, hv2, _, _, hb2⟩ := HO.out.open (by omega)
                obtain ⟨rfl, rfl⟩ : A = some ⟨g2, 0, none⟩ ∧ c = ol + k2 := by simp at hv2; exact hv2
                have hpa := pcs_at (qs := out) (us := us) (i := m.length) (q := (kk, l)) (u := u) (by rw [hout]; simp) (by rw [hus, ← hul]; simp)
                have c0 := (hb2.cell (m.length * 2)).trans (by rw [List.getElem?_append_left (List.getElem?_eq_some_iff.1 hpa.1).1, hpa.1])
                clear hv2
                have hkk : ¬ kk = j := fun h => hon ⟨m, l, by rw [hout, h]⟩
                have hkk2 : ¬ (kk : Int) = (j : Int) := by omega
                have hkk3 : ((kk : Int) == (j : Int)) = false := by rw [beq_eq_false_iff_ne]; omega
                generalize m.length = ml at *
                have j0 : 0 < ol := by omega
                have j1 : (ol : Int) - 1 = (ml : Int) := by omega
                have j3 : (ml : Int) < (ol : Int) := by omega
                have Hout := Lib.hid hout
                have Hus := Lib.hid hus
                have Hml := Lib.hid hml
                clear hout hus hml hul hpa hb2 hon
                go_wp2_with (first
                  | (at_builtin; refine wpList_append_own_at _ rfl _ _ 33 rfl 0 37 iP (.agg #[.int .i64 0, .slice none 0 0]) 2 32 undPartsP q1 q2 q3 q4 rfl (by decide) _ ol (pcs out us) rfl ((HO.out.alloc _).alloc _).toRow ⟨WS.heap.size + 1, 0, none⟩ 1 1 [.int .i64 (j : Int), .slice (some ⟨WS.heap.size, 0, none⟩) 1 1] rfl rfl (cell_two_atP _ _ _ _ _ (by simp)) (by intro u hu; simp at hu; rcases hu with rfl | rfl <;> rfl) (by unfold maxLen; omega) (by omega) (Nat.zero_le _) ?_; intro v' w4 hown' hgrow hnil hat))
                have own4 := Own.ofRow hown'
                have kA : Mild WS ((WS.alloc (.cells #[.int .i64 (a0 : Int), .int .i64 (b0 : Int)] 50)).alloc (.cells #[.int .i64 (j : Int), .slice (some ⟨WS.heap.size, 0, none⟩) 1 1] 37)) := ((Kept.refl _ _).alloc _).alloc _
                have zA := kA.size
                obtain ⟨kB, hat'⟩ := grow_kept (v := .slice (some ⟨g2, 0, none⟩) ol (ol + k2)) hgrow hat
                have hun : Own _ 2 50 (.slice (some ⟨WS.heap.size, 0, none⟩) 1 1) 1 (rcs [(a0, b0)]) := Own.alloc (w := WS.alloc (.cells #[.int .i64 (a0 : Int), .int .i64 (b0 : Int)] 50)) ⟨rfl, .inr ⟨WS.heap.size, 0, [], rfl, rfl, by unfold maxLen; omega, Blk.new WS _ _⟩⟩ (.cells #[.int .i64 (j : Int), .slice (some ⟨WS.heap.size, 0, none⟩) 1 1] 37)
                have hpo := PO.push (q := (j, [(a0, b0)])) HPS.out kA hun (by intro b hb; simp at hb; omega) kB (by rw [Hol.out]; exact own4) hat' HMS.out.size
                have hmi := Kept.then (HMS.out.trans kA) kB (fun b hb hv => absurd (HPS.out.above.1 b hv) (by omega))
                have hbq := (HBS.out.kept kA id).kept kB (fun h => Hq2.out.1 q h rfl)
                have hqz := Hqz.out
                have zS := HzS.out
                have Hqn := Lib.hid (show (∀ b ∈ blkOf v', b ≠ q) ∧ ∀ u ∈ us ++ [.slice (some ⟨WS.heap.size, 0, none⟩) 1 1], ∀ b ∈ blkOf u, b ≠ q from ⟨fun b hb => by
                  rcases hat' b hb with h | h
                  · exact Hq2.out.1 b h
                  · omega, fun u hu b hb => by
                  rcases List.mem_append.1 hu with hu | hu
                  · exact Hq2.out.2 u hu b hb
                  · simp at hu; subst hu; simp at hb; omega⟩)
                rw [← Hnw.out, ← hst2.out] at hpo
                have Hpo := Lib.hid hpo
                have Hmi := Lib.hid hmi
                have Hbq := Lib.hid hbq
                clear hpo hmi hbq hqz zS hown' hgrow hnil hat hat' hun own4 kA kB zA
                go_roundw
                case rel => exact ⟨j + 1, _, by go_num, by omega, by omega, Hmi, Hpo, Hbq, Hqn⟩
                case measure => simp only [intOf]; omega
        · have i2 : decide ((j : Int) ≤ (r.2 : Int) / 65536) = false := by simp; omega
          rw [show j = r.2 / 65536 + 1 by omega, Hend.out] at Hp2
          go_wp2_with fail
          go_roundw
          case rel => exact ⟨k + 1, us, by go_num, by omega, Hm2, Hp2⟩
          case measure => simp only [intOf]; omega
    · obtain rfl : k = nr := by omega
      go_wp2
      go_ret
      have e : s.take k = s := by rw [← Hl.out, List.take_length]
      have hp := Hp.out
      rw [e] at hp
      exact ⟨_, rfl, hp.pv, Hm.out⟩
end Go.Proofs

namespace Go.Proofs
open Go.RowKit Go.Roar
/-- A slice that reads wide numbers. -/
def KV (w : World) (v : Value) (l : List Nat) : Prop :=
  ∃ A c, v = .slice A l.length c ∧ ∀ (i k : Nat), l[i]? = some k → ∃ g, A = some ⟨g, 0, none⟩ ∧ w.cell? ⟨g, i, none⟩ = some (.int .i64 (k : Int))
theorem KV.mild {w w' : World} {v : Value} {l : List Nat} (h : KV w v l) (hk : Mild w w') : KV w' v l := by
  obtain ⟨A, c, rfl, h⟩ := h
  refine ⟨A, c, rfl, fun i k hi => ?_⟩
  obtain ⟨g, rfl, h1⟩ := h i k hi
  exact ⟨g, rfl, hk.cell2 id h1⟩
theorem KV.own {w : World} {v : Value} {l : List Nat} (h : Own w 1 3 v l.length (i64s l)) : KV w v l := by
  rcases h.2 with ⟨rfl, h0⟩ | ⟨g, k, r, rfl, hr, hm, hb⟩
  · obtain rfl := List.eq_nil_of_length_eq_zero h0
    exact ⟨_, _, rfl, by simp⟩
  · refine ⟨_, _, rfl, fun i x hx => ⟨g, rfl, ?_⟩⟩
    have e : (i64s l)[i]? = some (.int .i64 (x : Int)) := by simp [i64s, hx]
    exact (hb.cell _).trans (by rw [List.getElem?_append_left (List.getElem?_eq_some_iff.1 e).1]; exact e)

def BytesC : Prop := ∀ (u : Value) (s : List (Nat × Nat)) (kv : Value) (kd : List Nat) (w : World), RV w u s → RgOK 4294967296 s → s.length ≤ 1000 → rgCard s ≤ 200000 → KV w kv kd → KindsOK (partsOf s) kd →
    Calls Tryz.prog 11 #[u, kv] w fun e w' => ∃ v offs, e = .returned v ∧ Own w' 1 5 v (wholeOf (partsOf s) kd offs).length (u8s (wholeOf (partsOf s) kd offs)) ∧ offs.length = offLen kd ∧ (∀ b ∈ offs, b < 256) ∧ (wholeOf (partsOf s) kd offs).length ≤ 1000000000 ∧ Mild w w'

end Go.Proofs
