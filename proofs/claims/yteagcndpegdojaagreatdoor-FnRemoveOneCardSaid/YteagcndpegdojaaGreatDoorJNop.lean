/-
  Plain laws: spec.Not: the ranges between ranges.
  spec.Not: the numbers that a set has not.
-/
import Derived.Test.YteagcndpegdojaaGreatDoorJMbi
import Derived.Test.YteagcndpegdojaaGreatDoorJAp2
namespace Go.Roar
open Go.RowKit Go.Proofs
/-- The gaps ahead of ranges, from f on; where the last one begins. -/
def gl : Int → List (Nat × Nat) → List (Int × Int)
  | _, [] => []
  | f, r :: l => (f, (r.1 : Int) - 1) :: gl ((r.2 : Int) + 1) l
def ge : Int → List (Nat × Nat) → Int
  | f, [] => f
  | _, r :: l => ge ((r.2 : Int) + 1) l
theorem gl_concat (f : Int) (l : List (Nat × Nat)) (r : Nat × Nat) : gl f (l ++ [r]) = gl f l ++ [(ge f l, (r.1 : Int) - 1)] ∧ ge f (l ++ [r]) = (r.2 : Int) + 1 := by
  induction l generalizing f with
  | nil => exact ⟨rfl, rfl⟩
  | cons x l ih =>
    obtain ⟨h1, h2⟩ := ih ((x.2 : Int) + 1)
    exact ⟨by rw [List.cons_append]; unfold gl; rw [h1]; rfl, by rw [List.cons_append]; unfold ge; exact h2⟩
theorem gl_step {a : List (Nat × Nat)} {k : Nat} {r : Nat × Nat} (h : a[k]? = some r) (f : Int) : gl f (a.take (k + 1)) = gl f (a.take k) ++ [(ge f (a.take k), (r.1 : Int) - 1)] ∧ ge f (a.take (k + 1)) = (r.2 : Int) + 1 := by
  rw [List.take_add_one, h]
  exact gl_concat f _ r
theorem gl_length (f : Int) (l : List (Nat × Nat)) : (gl f l).length = l.length := by
  induction l generalizing f with
  | nil => rfl
  | cons x l ih => unfold gl; rw [List.length_cons, ih, List.length_cons]
/-- All gaps. -/
def gaps (f : Int) (l : List (Nat × Nat)) : List (Int × Int) := gl f l ++ [(ge f l, 4294967295)]
theorem gaps_cons (f : Int) (r : Nat × Nat) (l : List (Nat × Nat)) : gaps f (r :: l) = (f, (r.1 : Int) - 1) :: gaps ((r.2 : Int) + 1) l := rfl
theorem keepI_cons (r : Int × Int) (l : List (Int × Int)) : keepI (r :: l) = (if r.1 ≤ r.2 then [(r.1.toNat, r.2.toNat)] else []) ++ keepI l := by
  unfold keepI
  rw [List.filter_cons]
  by_cases h : r.1 ≤ r.2 <;> simp [h]
theorem inR_keepI {l : List (Int × Int)} (h : ∀ r ∈ l, r.1 ≤ r.2 → 0 ≤ r.1) (z : Nat) : inR (keepI l) z ↔ ∃ r ∈ l, r.1 ≤ (z : Int) ∧ (z : Int) ≤ r.2 := by
  unfold inR keepI
  constructor
  · rintro ⟨q, hq, h1, h2⟩
    obtain ⟨r, hr, rfl⟩ := List.mem_map.1 hq
    rw [List.mem_filter] at hr
    have h3 : r.1 ≤ r.2 := by simpa using hr.2
    have := h r hr.1 h3
    exact ⟨r, hr.1, by simp only at h1; omega, by simp only at h2; omega⟩
  · rintro ⟨r, hr, h1, h2⟩
    have := h r hr (by omega)
    exact ⟨(r.1.toNat, r.2.toNat), List.mem_map.2 ⟨r, List.mem_filter.2 ⟨hr, by simp; omega⟩, rfl⟩, by simp only; omega, by simp only; omega⟩
/-- The gaps are bounded .. -/
theorem gaps_ok {n : Nat} (hn : n ≤ 4294967296) : ∀ (l : List (Nat × Nat)) (f : Int), RgOK n l → 0 ≤ f → ∀ r ∈ gaps f l, r.1 ≤ r.2 → 0 ≤ r.1 ∧ r.2 < 4294967296
  | [], f, _, hf, r, hr, _ => by
    simp [gaps, gl, ge] at hr
    subst hr
    exact ⟨hf, by show (4294967295 : Int) < 4294967296; decide⟩
  | x :: l, f, h, hf, r, hr, h1 => by
    rw [gaps_cons] at hr
    have hx := h.1 x (by simp)
    rcases List.mem_cons.1 hr with rfl | hr
    · exact ⟨hf, by dsimp only; omega⟩
    · exact gaps_ok hn l _ h.tail (by omega) r hr h1
/-- .. and hold what the ranges have not. -/
theorem gaps_mem {n : Nat} (hn : n ≤ 4294967296) (z : Nat) : ∀ (l : List (Nat × Nat)) (f : Int), RgOK n l → 0 ≤ f → (∀ r ∈ l, f ≤ (r.1 : Int)) → ((∃ r ∈ gaps f l, r.1 ≤ (z : Int) ∧ (z : Int) ≤ r.2) ↔ f ≤ (z : Int) ∧ z < 4294967296 ∧ ¬ inR l z)
  | [], f, _, hf, _ => by
    simp only [gaps, gl, ge, List.nil_append, List.mem_singleton, exists_eq_left]
    constructor
    · rintro ⟨h1, h2⟩; exact ⟨h1, by omega, inR_nil z⟩
    · rintro ⟨h1, h2, _⟩; exact ⟨h1, by omega⟩
  | x :: l, f, h, hf, hlo => by
    have hx := h.1 x (by simp)
    have hfx := hlo x (by simp)
    have ih := gaps_mem hn z l ((x.2 : Int) + 1) h.tail (by omega) (fun r hr => by have := (List.pairwise_cons.1 h.2).1 r hr; omega)
    rw [gaps_cons]
    simp only [List.mem_cons, exists_eq_or_imp, inR_cons]
    constructor
    · rintro (⟨h1, h2⟩ | h1)
      · refine ⟨h1, by omega, ?_⟩
        rintro (h3 | ⟨r, hr, h3, h4⟩)
        · omega
        · have := (List.pairwise_cons.1 h.2).1 r hr; omega
      · obtain ⟨h2, h3, h4⟩ := ih.1 h1
        exact ⟨by omega, h3, by rintro (h5 | h5); · omega
                                · exact h4 h5⟩
    · rintro ⟨h1, h2, h3⟩
      by_cases h4 : (z : Int) ≤ (x.1 : Int) - 1
      · exact .inl ⟨h1, h4⟩
      · exact .inr (ih.2 ⟨by
          refine Int.not_lt.1 (fun h5 => h3 (.inl ⟨by omega, by omega⟩)), h2, fun h5 => h3 (.inr h5)⟩)
end Go.Roar

namespace Go.Roar
open Go.RowKit Go.Proofs
/-- Ranges of any numbers as cells. -/
def rcsI (rs : List (Int × Int)) : List Value := rs.flatMap fun r => [.int .i64 r.1, .int .i64 r.2]
theorem rcsI_append (a b : List (Int × Int)) : rcsI (a ++ b) = rcsI a ++ rcsI b := by simp [rcsI]
theorem rcsI_length (a : List (Int × Int)) : (rcsI a).length = a.length * 2 := by
  induction a with
  | nil => rfl
  | cons r l ih => rw [show r :: l = [r] ++ l from rfl, rcsI_append, List.length_append, ih]; simp [rcsI]; omega
theorem rcsI_at {rs : List (Int × Int)} {i : Nat} {r : Int × Int} (h : rs[i]? = some r) : (rcsI rs)[i * 2]? = some (.int .i64 r.1) ∧ (rcsI rs)[i * 2 + 1]? = some (.int .i64 r.2) := by
  obtain ⟨hi, rfl⟩ := List.getElem?_eq_some_iff.1 h
  have e : rcsI rs = rcsI (rs.take i) ++ rcsI (rs[i] :: rs.drop (i + 1)) := by
    rw [← rcsI_append]; congr 1
    rw [← List.drop_eq_getElem_cons hi, List.take_append_drop]
  have hl : (rcsI (rs.take i)).length = i * 2 := by rw [rcsI_length, List.length_take]; omega
  rw [e]
  constructor
  · rw [List.getElem?_append_right (by omega), hl, Nat.sub_self]; rfl
  · rw [List.getElem?_append_right (by omega), hl, show i * 2 + 1 - i * 2 = 1 by omega]; rfl
theorem RVI.own {w : World} {v : Value} {rs : List (Int × Int)} (h : Own w 2 34 v rs.length (rcsI rs)) : RVI w v rs := by
  rcases h.2 with ⟨rfl, h0⟩ | ⟨g, k, r, rfl, hr, hm, hb⟩
  · obtain rfl := List.eq_nil_of_length_eq_zero h0
    exact ⟨_, _, rfl, by simp⟩
  · refine ⟨_, _, rfl, fun i x hx => ⟨g, rfl, ?_, ?_⟩⟩
    · have e := (rcsI_at hx).1
      exact (hb.cell _).trans (by rw [List.getElem?_append_left (List.getElem?_eq_some_iff.1 e).1]; exact e)
    · have e := (rcsI_at hx).2
      exact (hb.cell _).trans (by rw [List.getElem?_append_left (List.getElem?_eq_some_iff.1 e).1]; exact e)
theorem ge_bound {a : List (Nat × Nat)} (h : RgOK 4294967296 a) (k : Nat) : 0 ≤ ge 0 (a.take k) ∧ ge 0 (a.take k) ≤ 4294967296 := by
  induction k with
  | zero => exact ⟨by simp [ge], by simp [ge]⟩
  | succ k ih =>
    rcases Nat.lt_or_ge k a.length with hk | hk
    · have hx := List.getElem?_eq_getElem hk
      rw [(gl_step hx 0).2]
      have := h.1 _ (List.mem_of_getElem? hx)
      omega
    · rw [List.take_of_length_le (by omega)] at ih ⊢
      exact ih
theorem Own.formN {w : World} {size : Nat} {e : TypeId} {v : Value} {n : Nat} {xs : List Value} (h : Own w size e v n xs) : ∃ A c, v = .slice A n c := by
  rcases h.2 with ⟨h1, h0⟩ | ⟨g, k, r, h1, _⟩
  · exact ⟨none, 0, by rw [h1, h0]⟩
  · exact ⟨_, _, h1⟩
end Go.Roar
namespace Go.Proofs
open Go.RowKit Go.Roar

set_option maxRecDepth 100000 in
set_option maxHeartbeats 4000000 in
theorem not_any (ua : Value) (a : List (Nat × Nat)) (w : World) (ha : RV w ua a) (hok : RgOK 4294967296 a) (hla : a.length ≤ 100000) :
    Calls Tryz.prog 21 #[ua] w fun e w' => ∃ v s, e = .returned v ∧ Own w' 2 34 v s.length (rcs s) ∧ RgOK 4294967296 s ∧ s.length ≤ a.length + 1 ∧ (∀ z, inR s z ↔ z < 4294967296 ∧ ¬ inR a z) ∧ Mild w w' := by
  obtain ⟨iR, zz1, zz2, zz3, zz4⟩ := info_parts infoRange
  have HM := Lib.hid (fun (u : Value) (rs : List (Int × Int)) (W : World) (h1 : RVI W u rs) (h2 : ∀ r ∈ rs, r.1 ≤ r.2 → 0 ≤ r.1 ∧ r.2 < 4294967296) (h3 : rs.length ≤ 1000000) => madeI_any u rs W h1 h2 h3)
  have HG := Lib.hid (gaps_ok (Nat.le_refl 4294967296) a 0 hok (Int.le_refl 0))
  have HI := Lib.hid (fun z => gaps_mem (Nat.le_refl 4294967296) z a 0 hok (Int.le_refl 0) (fun r hr => by omega))
  have HB := Lib.hid (ge_bound hok)
  have HR := Lib.hid hok.1
  obtain ⟨na, hna⟩ : ∃ na, na = a.length := ⟨_, rfl⟩
  obtain ⟨A, c, rfl, ha⟩ := ha
  rw [← hna] at hla
  rw [← hna]
  have Ha := Lib.hid ha
  have Hna := Lib.hid hna
  have m0 : Mild w (w.alloc (.cells #[] 34)) := (Kept.refl _ _).alloc _
  have ow0 : Own (w.alloc (.cells #[] 34)) 2 34 (.slice (some ⟨w.heap.size, 0, none⟩) 0 0) 0 [] := ⟨rfl, .inr ⟨w.heap.size, 0, [], rfl, rfl, Nat.zero_le _, Blk.new w _ []⟩⟩
  have M0 := Lib.hid m0
  have W0 := Lib.hid ow0
  clear m0 ow0 ha hna hok
  go_enter Tryz.func21, Tryz.ntmps21
  go_wp2
  go_loopw [10, 3, 4] (fun i v f wr => ∃ k : Nat, i = .int .i64 k ∧ k ≤ na ∧ f = .int .i64 (ge 0 (a.take k)) ∧ Hid (Mild w wr) ∧ Hid (Own wr 2 34 v (gl 0 (a.take k)).length (rcsI (gl 0 (a.take k)))) ∧ Hid (∀ z ∈ blkOf v, w.heap.size ≤ z)) (fun i _ _ _ => na - (intOf i).toNat)
  case atStart => exact ⟨0, rfl, Nat.zero_le _, rfl, M0, W0, Lib.hid (by intro z hz; simp at hz; omega)⟩
  case round =>
    obtain ⟨k, rfl, hk, rfl, Hm, Ho, Hf⟩ := hrel
    obtain ⟨VA, vc, rfl⟩ := Own.formN Ho.out
    have hgb := HB.out k
    have hgl := gl_length 0 (a.take k)
    rw [List.length_take, ← Hna.out, Nat.min_eq_left hk] at hgl
    by_cases hlt : k < na
    · obtain ⟨x, hx⟩ : ∃ x, a[k]? = some x := ⟨_, List.getElem?_eq_getElem (by rw [← Hna.out]; exact hlt)⟩
      obtain ⟨g, rfl, a1, a2⟩ := Ha.out k x hx
      have hxb := HR.out x (List.mem_of_getElem? hx)
      have ca := Hm.out.cell2 id a1
      have cb := Hm.out.cell2 id a2
      have i1 : (k : Int) < (na : Int) := by omega
      obtain ⟨hst1, hst2⟩ := gl_step hx 0
      have HS1 := Lib.hid hst1
      have HS2 := Lib.hid hst2
      have HGL := Lib.hid hgl
      have hml : (gl 0 (a.take k)).length ≤ 100000 := by omega
      have HNO := Lib.hid (show wr.heap.size ∉ blkOf (.slice VA (gl 0 (a.take k)).length vc) from fun h => by have := Ho.out.lt _ h; omega)
      have HBX := Lib.hid (fun (o : Obj) => (Blk.new wr 34 [.int .i64 (x.1 : Int), .int .i64 (x.2 : Int)]).alloc o)
      clear a1 a2 hx hst1 hst2 hgl
      generalize ge 0 (a.take k) = f at *
      generalize gl 0 (a.take k) = G at *
      generalize hmm : G.length = ml at *
      have Hmm := Lib.hid hmm
      clear hmm
      go_wp2_with (first
        | (at_builtin; refine append_own_kept (S := fun _ => False) w rfl _ _ 24 24 rfl 34 iR (.agg #[.int .i64 0, .int .i64 0]) 2 16 undRanges undRanges zz1 zz2 zz3 zz4 rfl (by decide) _ ml (rcsI G) rfl ((Ho.out.alloc _).alloc _) ((Hm.out.alloc _).alloc _) Hf.out (some ⟨_, 0, none⟩) 1 1 [.int .i64 f, .int .i64 ((x.1 : Int) - 1)] rfl rfl (by simp) (fun ad had => by cases had; exact cell_two_at _ _ _ _ _ (by simp)) (by simp [Value.oneCell']) (by unfold maxLen; omega) (by omega) ?_; intro v4 w4 o4 k4 l4 f4 n4; have y1 : w4.cell? ⟨wr.heap.size, 1, none⟩ = some (.int .i64 (x.2 : Int)) := l4.cell2 HNO.out ((HBX.out _).cell 1))
        | fail)
      have HE := Lib.hid (show rcsI (gl 0 (a.take (k + 1))) = rcsI G ++ [.int .i64 f, .int .i64 ((x.1 : Int) - 1)] by rw [HS1.out, rcsI_append]; rfl)
      have HL2 := Lib.hid (show (gl 0 (a.take (k + 1))).length = ml + 1 by rw [HS1.out, List.length_append, Hmm.out]; rfl)
      rw [← HE.out, ← HL2.out] at o4
      go_roundw
      case rel => exact ⟨k + 1, by go_num, by omega, by rw [HS2.out], Lib.hid k4, Lib.hid o4, Lib.hid f4⟩
      case measure => simp only [intOf]; omega
    · obtain rfl : k = na := by omega
      have e : a.take k = a := by rw [Hna.out, List.take_length]
      rw [e] at Ho Hf hgb hgl ⊢
      have HE := Lib.hid (show rcsI (gaps 0 a) = rcsI (gl 0 a) ++ [.int .i64 (ge 0 a), .int .i64 4294967295] by unfold gaps; rw [rcsI_append]; rfl)
      have HL2 := Lib.hid (show (gaps 0 a).length = (gl 0 a).length + 1 by unfold gaps; rw [List.length_append]; rfl)
      have hml : (gl 0 a).length ≤ 100000 := by omega
      have HGL := Lib.hid hgl
      clear e hgl
      generalize ge 0 a = f at *
      generalize gl 0 a = G at *
      generalize hmm : G.length = ml at *
      have Hmm := Lib.hid hmm
      clear hmm
      go_wp2_with (first
        | (at_builtin; refine append_own_kept (S := fun _ => False) w rfl _ _ 24 24 rfl 34 iR (.agg #[.int .i64 0, .int .i64 0]) 2 16 undRanges undRanges zz1 zz2 zz3 zz4 rfl (by decide) _ ml (rcsI G) rfl (Ho.out.alloc _) (Hm.out.alloc _) Hf.out (some ⟨_, 0, none⟩) 1 1 [.int .i64 f, .int .i64 4294967295] rfl rfl (by simp) (fun ad had => by cases had; exact cell_two_at _ _ _ _ _ (by simp)) (by simp [Value.oneCell']) (by unfold maxLen; omega) (by omega) ?_; intro v4 w4 o4 k4 l4 f4 n4; have K4 := Lib.hid k4; rw [← HE.out, ← HL2.out] at o4; have R4 := Lib.hid (RVI.own o4); clear k4 l4 f4 n4 o4)
        | (go_at_call 15; (with_reducible refine (HM.out _ (gaps 0 a) _ R4.out HG.out (by rw [HL2.out]; omega)).mono ?_); rintro ed w5 ⟨v5, s, rfl, t1, t2, t3, t4, t5, t6, t7⟩; have T1 := Lib.hid t1; have T2 := Lib.hid t2; have T4 := Lib.hid t4; have T5 := Lib.hid t5; have T6 := Lib.hid t6; clear t1 t2 t3 t4 t5 t6 t7)
        | fail)
      go_ret
      refine ⟨_, s, rfl, T1.out, T2.out, by have := T4.out; rw [HL2.out, HGL.out] at this; exact this, fun z => ?_, K4.out.trans T6.out⟩
      have hz : z ∈ rgNums s ↔ inR s z := rgNums_mem (fun r hr => (T2.out.1 r hr).1) z
      rw [← hz, T5.out, inR_keepI (fun r hr h => (HG.out r hr h).1), HI.out]
      exact ⟨fun h => h.2, fun h => ⟨by omega, h⟩⟩
end Go.Proofs
