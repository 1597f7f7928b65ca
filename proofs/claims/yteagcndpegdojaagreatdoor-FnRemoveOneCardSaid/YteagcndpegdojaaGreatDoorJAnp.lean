/-
  Plain laws: spec.And: the ranges that each two ranges have in common.
  Plain laws for spec.Or: ranges in memory as the source of an append.
  spec.And: the numbers of both of two sets.
  spec.Less: the numbers of the first of two sets that the second one has not.
-/
import Derived.Test.YteagcndpegdojaaGreatDoorJQpl
import Derived.Test.YteagcndpegdojaaGreatDoorJWh
import Derived.Test.YteagcndpegdojaaGreatDoorJAp2
import Derived.Test.YteagcndpegdojaaGreatDoorJMbi
import Derived.Test.YteagcndpegdojaaGreatDoorJNop
namespace Go.Roar
def andR (x y : Nat × Nat) : Nat × Nat := (max x.1 y.1, min x.2 y.2)
def andL (a b : List (Nat × Nat)) : List (Nat × Nat) := a.flatMap fun x => b.map (andR x)
theorem inR_andL (a b : List (Nat × Nat)) (z : Nat) : inR (andL a b) z ↔ inR a z ∧ inR b z := by
  unfold inR andL
  constructor
  · rintro ⟨r, hr, h1, h2⟩
    obtain ⟨x, hx, hr⟩ := List.mem_flatMap.1 hr
    obtain ⟨y, hy, rfl⟩ := List.mem_map.1 hr
    unfold andR at h1 h2
    simp only at h1 h2
    exact ⟨⟨x, hx, by omega, by omega⟩, ⟨y, hy, by omega, by omega⟩⟩
  · rintro ⟨⟨x, hx, h1, h2⟩, ⟨y, hy, h3, h4⟩⟩
    exact ⟨andR x y, List.mem_flatMap.2 ⟨x, hx, List.mem_map.2 ⟨y, hy, rfl⟩⟩, by unfold andR; simp only; omega, by unfold andR; simp only; omega⟩
theorem andL_step {a b : List (Nat × Nat)} {k : Nat} {x : Nat × Nat} (h : a[k]? = some x) : andL (a.take (k + 1)) b = andL (a.take k) b ++ b.map (andR x) := by
  unfold andL
  rw [List.take_add_one, h, List.flatMap_append]
  simp
theorem map_step {b : List (Nat × Nat)} {j : Nat} {x y : Nat × Nat} (h : b[j]? = some y) : (b.take (j + 1)).map (andR x) = (b.take j).map (andR x) ++ [andR x y] := by
  rw [List.take_add_one, h, List.map_append]
  simp
theorem andL_length (a b : List (Nat × Nat)) : (andL a b).length = a.length * b.length := by
  unfold andL
  induction a with
  | nil => simp
  | cons x l ih => rw [List.flatMap_cons, List.length_append, ih, List.length_map, List.length_cons, Nat.add_mul]; omega
theorem andL_lt {a b : List (Nat × Nat)} {n : Nat} (ha : ∀ r ∈ a, r.1 < n ∧ r.2 < n) (hb : ∀ r ∈ b, r.1 < n ∧ r.2 < n) : ∀ r ∈ andL a b, r.1 < n ∧ r.2 < n := by
  intro r hr
  obtain ⟨x, hx, hr⟩ := List.mem_flatMap.1 hr
  obtain ⟨y, hy, rfl⟩ := List.mem_map.1 hr
  have h1 := ha x hx
  have h2 := hb y hy
  unfold andR
  simp only
  omega
end Go.Roar

namespace Go.Roar
open Go.RowKit Go.Proofs
theorem add_flat (g j : Nat) : (⟨g, 0, none⟩ : Addr).add j = ⟨g, j, none⟩ := by
  unfold Addr.add
  by_cases hj0 : j = 0
  · subst hj0; simp
  · simp [hj0]
theorem RV.news {w : World} {ad : Addr} {n c : Nat} {rs : List (Nat × Nat)} (h : RV w (.slice (some ad) n c) rs) : ∀ j u, (rcs rs)[j]? = some u → w.cell? (ad.add j) = some u := by
  obtain ⟨A, c', e, h⟩ := h
  simp only [Value.slice.injEq] at e
  obtain ⟨rfl, rfl, rfl⟩ := e
  intro j u hj
  have hjl : j < rs.length * 2 := by have := (List.getElem?_eq_some_iff.1 hj).1; rwa [rcs_length] at this
  obtain ⟨i, hi⟩ : ∃ i, j = i * 2 ∨ j = i * 2 + 1 := ⟨j / 2, by omega⟩
  have hr : rs[i]? = some (rs[i]'(by omega)) := List.getElem?_eq_getElem (by omega)
  obtain ⟨g, hg, c1, c2⟩ := h _ _ hr
  obtain ⟨e1, e2⟩ := rcs_at hr
  simp only [Option.some.injEq] at hg
  subst hg
  rcases hi with rfl | rfl
  · rw [e1] at hj
    rw [← Option.some.inj hj, ← c1, add_flat]
  · rw [e2] at hj
    rw [← Option.some.inj hj, ← c2, add_flat]
theorem RV.none_nil {w : World} {n c : Nat} {rs : List (Nat × Nat)} (h : RV w (.slice none n c) rs) : rs = [] := by
  obtain ⟨A, c', e, h⟩ := h
  simp only [Value.slice.injEq] at e
  obtain ⟨rfl, rfl, rfl⟩ := e
  cases rs with
  | nil => rfl
  | cons r l =>
    obtain ⟨g, hg, _⟩ := h 0 r rfl
    cases hg
end Go.Roar

namespace Go.Roar
open Go.RowKit Go.Proofs
theorem rcs_oneA (rs : List (Nat × Nat)) : ∀ u ∈ rcs rs, u.oneCell' = true := by
  intro u hu
  unfold rcs at hu
  obtain ⟨r, _, hu⟩ := List.mem_flatMap.1 hu
  simp at hu
  rcases hu with rfl | rfl <;> rfl
theorem Own.form2 {w : World} {size : Nat} {e : TypeId} {v : Value} {n : Nat} {xs : List Value} (h : Own w size e v n xs) : ∃ A c, v = .slice A n c := Own.form h
end Go.Roar
namespace Go.Proofs
open Go.RowKit Go.Roar
theorem cell_two_pl (w : World) (x y : Value) (t : TypeId) (n : Nat) (hn : n = w.heap.size) : ∀ j u, [x, y][j]? = some u → (w.alloc (.cells #[x, y] t)).cell? ((⟨n, 0, none⟩ : Addr).add j) = some u := by
  subst hn; exact cell_two_new w x y t
theorem infoRangeA : (Tryz.prog.info? 34).map (fun i => (i.zero, i.size, i.bytes)) = some (some (.agg #[.int .i64 0, .int .i64 0]), 2, 16) := by kernel_rfl
theorem undRangesA : Tryz.prog.underlying 24 = some (.slice 34) := by kernel_rfl

set_option maxRecDepth 100000 in
set_option maxHeartbeats 4000000 in
theorem and_any (ua ub : Value) (a b : List (Nat × Nat)) (w : World) (ha : RV w ua a) (hb : RV w ub b) (hra : ∀ r ∈ a, r.1 < 4294967296 ∧ r.2 < 4294967296) (hrb : ∀ r ∈ b, r.1 < 4294967296 ∧ r.2 < 4294967296) (hla : a.length ≤ 1000000) (hlb : b.length ≤ 1000000) (hl : a.length * b.length ≤ 1000000) :
    Calls Tryz.prog 20 #[ua, ub] w fun e w' => ∃ v s, e = .returned v ∧ Own w' 2 34 v s.length (rcs s) ∧ RgOK 4294967296 s ∧ s.length ≤ a.length * b.length ∧ (∀ x, x ∈ rgNums s ↔ inR a x ∧ inR b x) ∧ Mild w w' := by
  obtain ⟨iR, zz1, zz2, zz3, zz4⟩ := info_parts infoRangeA
  have HM := Lib.hid (fun (u : Value) (rs : List (Nat × Nat)) (W : World) (h1 : RV W u rs) (h2 : ∀ r ∈ rs, r.1 < 4294967296 ∧ r.2 < 4294967296) (h3 : rs.length ≤ 1000000) => made_any u rs W h1 h2 h3)
  have HL := Lib.hid hl
  have HRA := Lib.hid (andL_lt hra hrb)
  obtain ⟨na, hna⟩ : ∃ na, na = a.length := ⟨_, rfl⟩
  obtain ⟨nb, hnb⟩ : ∃ nb, nb = b.length := ⟨_, rfl⟩
  obtain ⟨A, c, rfl, ha⟩ := ha
  obtain ⟨B, d, rfl, hb⟩ := hb
  rw [← hna] at hla
  rw [← hnb] at hlb
  rw [← hna, ← hnb]
  have Ha := Lib.hid ha
  have Hb := Lib.hid hb
  have Hna := Lib.hid hna
  have Hnb := Lib.hid hnb
  have Hra := Lib.hid hra
  have Hrb := Lib.hid hrb
  have m0 : Mild w (w.alloc (.cells #[] 34)) := (Kept.refl _ _).alloc _
  have ow0 : Own (w.alloc (.cells #[] 34)) 2 34 (.slice (some ⟨w.heap.size, 0, none⟩) 0 0) 0 [] := ⟨rfl, .inr ⟨w.heap.size, 0, [], rfl, rfl, Nat.zero_le _, Blk.new w _ []⟩⟩
  have M0 := Lib.hid m0
  have W0 := Lib.hid ow0
  clear m0 ow0 ha hb hna hnb hra hrb hl
  go_enter Tryz.func20, Tryz.ntmps20
  go_wp2
  go_loopw [13, 5] (fun i v wr => ∃ k : Nat, i = .int .i64 k ∧ k ≤ na ∧ Hid (Mild w wr) ∧ Hid (Own wr 2 34 v (andL (a.take k) b).length (rcs (andL (a.take k) b))) ∧ Hid (∀ z ∈ blkOf v, w.heap.size ≤ z)) (fun i _ _ => na - (intOf i).toNat)
  case atStart => exact ⟨0, rfl, Nat.zero_le _, M0, W0, Lib.hid (by intro z hz; simp at hz; omega)⟩
  case round =>
    obtain ⟨k, rfl, hk, Hm, Ho, Hf⟩ := hrel
    obtain ⟨VA, vc, rfl⟩ := Own.form2 Ho.out
    by_cases hlt : k < na
    · obtain ⟨x, hx⟩ : ∃ x, a[k]? = some x := ⟨_, List.getElem?_eq_getElem (by rw [← Hna.out]; exact hlt)⟩
      obtain ⟨g, rfl, a1, a2⟩ := Ha.out k x hx
      have hxb := Hra.out x (List.mem_of_getElem? hx)
      have ca := Hm.out.cell2 id a1
      have cb := Hm.out.cell2 id a2
      have i1 : (k : Int) < (na : Int) := by omega
      have HX := Lib.hid hx
      have hst := andL_step (b := b) hx
      have HST := Lib.hid hst
      have hno : wr.heap.size ∉ blkOf (.slice VA (andL (a.take k) b).length vc) := fun h => by have := Ho.out.lt _ h; omega
      have hlk : (andL (a.take k) b).length + nb ≤ 1000000 := by
        have h1 := HL.out
        rw [andL_length, List.length_take, ← Hna.out, ← Hnb.out, Nat.min_eq_left hk]
        rw [← Hna.out, ← Hnb.out] at h1
        have h2 : (k + 1) * nb ≤ na * nb := Nat.mul_le_mul_right nb hlt
        rw [Nat.add_mul, Nat.one_mul] at h2
        omega
      have HNO := Lib.hid hno
      have nbk := Blk.new wr 34 [.int .i64 (x.1 : Int), .int .i64 (x.2 : Int)]
      have HBX := Lib.hid nbk
      have Hoa := Lib.hid (Ho.out.alloc (.cells #[.int .i64 (x.1 : Int), .int .i64 (x.2 : Int)] 34))
      have Hma := Lib.hid (Hm.out.alloc (.cells #[.int .i64 (x.1 : Int), .int .i64 (x.2 : Int)] 34))
      clear a1 a2 hx hst hno nbk
      generalize andL (a.take k) b = L0 at *
      go_wp2_with fail
      generalize hXB : wr.heap.size = XB at *
      go_loopw [19, 5] (fun j v wx => ∃ jj : Nat, j = .int .i64 jj ∧ jj ≤ nb ∧ Hid (Mild w wx) ∧ Hid (Own wx 2 34 v (L0 ++ (b.take jj).map (andR x)).length (rcs (L0 ++ (b.take jj).map (andR x)))) ∧ Hid (∀ z ∈ blkOf v, w.heap.size ≤ z) ∧ Hid (Blk wx XB 34 [.int .i64 (x.1 : Int), .int .i64 (x.2 : Int)]) ∧ Hid (XB ∉ blkOf v)) (fun j _ _ => nb - (intOf j).toNat)
      case atStart => exact ⟨0, rfl, Nat.zero_le _, Hma, Lib.hid (by simpa using Hoa.out), Hf, HBX, HNO⟩
      case round =>
        obtain ⟨jj, rfl, hjj, Hm2, Ho2, Hf2, Hb2, Hn2⟩ := hrel
        obtain ⟨VB, vd, rfl⟩ := Own.form2 Ho2.out
        by_cases hlt2 : jj < nb
        · obtain ⟨y, hy⟩ : ∃ y, b[jj]? = some y := ⟨_, List.getElem?_eq_getElem (by rw [← Hnb.out]; exact hlt2)⟩
          obtain ⟨g2, rfl, c1, c2⟩ := Hb.out jj y hy
          have hyb := Hrb.out y (List.mem_of_getElem? hy)
          have da := Hm2.out.cell2 id c1
          have db := Hm2.out.cell2 id c2
          have i2 : (jj : Int) < (nb : Int) := by omega
          have hms := map_step (x := x) hy
          have HMS := Lib.hid (show rcs (L0 ++ (b.take (jj + 1)).map (andR x)) = rcs (L0 ++ (b.take jj).map (andR x)) ++ rcs [andR x y] by rw [hms, ← List.append_assoc, rcs_append])
          have HML := Lib.hid (show (L0 ++ (b.take (jj + 1)).map (andR x)).length = (L0 ++ (b.take jj).map (andR x)).length + 1 by rw [hms, ← List.append_assoc, List.length_append]; rfl)
          have hml : (L0 ++ (b.take jj).map (andR x)).length ≤ 1000000 := by rw [List.length_append, List.length_map, List.length_take]; omega
          have kY : Mild wr (wr.alloc (.cells #[.int .i64 (y.1 : Int), .int .i64 (y.2 : Int)] 34)) := (Kept.refl _ _).alloc _
          have bY := Hb2.out.kept kY id
          have e0 := bY.cell 0
          have e1 := bY.cell 1
          have nY := Blk.new wr 34 [.int .i64 (y.1 : Int), .int .i64 (y.2 : Int)]
          have f0 := nY.cell 0
          have f1 := nY.cell 1
          simp only [List.getElem?_cons_zero, List.getElem?_cons_succ] at e0 e1 f0 f1
          have HKY := Lib.hid kY
          clear c1 c2 hy hms bY nY kY
          generalize hml2 : (L0 ++ (b.take jj).map (andR x)).length = ml at *
          generalize rcs (L0 ++ (b.take jj).map (andR x)) = ML at *
          by_cases h1 : x.1 < y.1
          · have j1 : (x.1 : Int) < (y.1 : Int) := by omega
            by_cases h2 : y.2 < x.2
            · have j2 : (y.2 : Int) < (x.2 : Int) := by omega
              have HR := Lib.hid (show rcs [andR x y] = [.int .i64 (y.1 : Int), .int .i64 (y.2 : Int)] by unfold andR; rw [show max x.1 y.1 = y.1 by omega, show min x.2 y.2 = y.2 by omega]; rfl)
              go_wp2_with (first
                | (at_builtin; refine append_own_kept (S := fun _ => False) w rfl _ _ 24 24 rfl 34 iR (.agg #[.int .i64 0, .int .i64 0]) 2 16 undRangesA undRangesA zz1 zz2 zz3 zz4 rfl (by decide) _ ml ML rfl ((Ho2.out.kept HKY.out (fun _ _ => id)).alloc _) ((Hm2.out.trans HKY.out).alloc _) Hf2.out (some ⟨_, 0, none⟩) 1 1 [.int .i64 (y.1 : Int), .int .i64 (y.2 : Int)] rfl rfl (by simp) (fun ad had => by cases had; exact cell_two_pl _ _ _ _ _ (by simp)) (by simp [Value.oneCell']) (by unfold maxLen; omega) (by omega) ?_; intro v4 w4 o4 k4 l4 f4 n4)
                | fail)
              have hb4 := (Hb2.out.kept ((HKY.out.alloc (.cells #[.int .i64 (y.1 : Int), .int .i64 (y.2 : Int)] 34))) id).kept l4 Hn2.out
              have hn4 : XB ∉ blkOf v4 := fun h => by
                have z1 := Hb2.out.lt
                rcases n4 XB h with h | h
                · exact Hn2.out h
                · simp at h; omega
              rw [← HR.out, ← HMS.out, ← HML.out] at o4
              go_roundw
              case rel => exact ⟨jj + 1, by go_num, by omega, Lib.hid k4, Lib.hid o4, Lib.hid f4, Lib.hid hb4, Lib.hid hn4⟩
              case measure => simp only [intOf]; omega
            · have j2 : ¬ (y.2 : Int) < (x.2 : Int) := by omega
              have HR := Lib.hid (show rcs [andR x y] = [.int .i64 (y.1 : Int), .int .i64 (x.2 : Int)] by unfold andR; rw [show max x.1 y.1 = y.1 by omega, show min x.2 y.2 = x.2 by omega]; rfl)
              go_wp2_with (first
                | (at_builtin; refine append_own_kept (S := fun _ => False) w rfl _ _ 24 24 rfl 34 iR (.agg #[.int .i64 0, .int .i64 0]) 2 16 undRangesA undRangesA zz1 zz2 zz3 zz4 rfl (by decide) _ ml ML rfl ((Ho2.out.kept HKY.out (fun _ _ => id)).alloc _) ((Hm2.out.trans HKY.out).alloc _) Hf2.out (some ⟨_, 0, none⟩) 1 1 [.int .i64 (y.1 : Int), .int .i64 (x.2 : Int)] rfl rfl (by simp) (fun ad had => by cases had; exact cell_two_pl _ _ _ _ _ (by simp)) (by simp [Value.oneCell']) (by unfold maxLen; omega) (by omega) ?_; intro v4 w4 o4 k4 l4 f4 n4)
                | fail)
              have hb4 := (Hb2.out.kept ((HKY.out.alloc (.cells #[.int .i64 (y.1 : Int), .int .i64 (x.2 : Int)] 34))) id).kept l4 Hn2.out
              have hn4 : XB ∉ blkOf v4 := fun h => by
                have z1 := Hb2.out.lt
                rcases n4 XB h with h | h
                · exact Hn2.out h
                · simp at h; omega
              rw [← HR.out, ← HMS.out, ← HML.out] at o4
              go_roundw
              case rel => exact ⟨jj + 1, by go_num, by omega, Lib.hid k4, Lib.hid o4, Lib.hid f4, Lib.hid hb4, Lib.hid hn4⟩
              case measure => simp only [intOf]; omega
          · have j1 : ¬ (x.1 : Int) < (y.1 : Int) := by omega
            by_cases h2 : y.2 < x.2
            · have j2 : (y.2 : Int) < (x.2 : Int) := by omega
              have HR := Lib.hid (show rcs [andR x y] = [.int .i64 (x.1 : Int), .int .i64 (y.2 : Int)] by unfold andR; rw [show max x.1 y.1 = x.1 by omega, show min x.2 y.2 = y.2 by omega]; rfl)
              go_wp2_with (first
                | (at_builtin; refine append_own_kept (S := fun _ => False) w rfl _ _ 24 24 rfl 34 iR (.agg #[.int .i64 0, .int .i64 0]) 2 16 undRangesA undRangesA zz1 zz2 zz3 zz4 rfl (by decide) _ ml ML rfl ((Ho2.out.kept HKY.out (fun _ _ => id)).alloc _) ((Hm2.out.trans HKY.out).alloc _) Hf2.out (some ⟨_, 0, none⟩) 1 1 [.int .i64 (x.1 : Int), .int .i64 (y.2 : Int)] rfl rfl (by simp) (fun ad had => by cases had; exact cell_two_pl _ _ _ _ _ (by simp)) (by simp [Value.oneCell']) (by unfold maxLen; omega) (by omega) ?_; intro v4 w4 o4 k4 l4 f4 n4)
                | fail)
              have hb4 := (Hb2.out.kept ((HKY.out.alloc (.cells #[.int .i64 (x.1 : Int), .int .i64 (y.2 : Int)] 34))) id).kept l4 Hn2.out
              have hn4 : XB ∉ blkOf v4 := fun h => by
                have z1 := Hb2.out.lt
                rcases n4 XB h with h | h
                · exact Hn2.out h
                · simp at h; omega
              rw [← HR.out, ← HMS.out, ← HML.out] at o4
              go_roundw
              case rel => exact ⟨jj + 1, by go_num, by omega, Lib.hid k4, Lib.hid o4, Lib.hid f4, Lib.hid hb4, Lib.hid hn4⟩
              case measure => simp only [intOf]; omega
            · have j2 : ¬ (y.2 : Int) < (x.2 : Int) := by omega
              have HR := Lib.hid (show rcs [andR x y] = [.int .i64 (x.1 : Int), .int .i64 (x.2 : Int)] by unfold andR; rw [show max x.1 y.1 = x.1 by omega, show min x.2 y.2 = x.2 by omega]; rfl)
              go_wp2_with (first
                | (at_builtin; refine append_own_kept (S := fun _ => False) w rfl _ _ 24 24 rfl 34 iR (.agg #[.int .i64 0, .int .i64 0]) 2 16 undRangesA undRangesA zz1 zz2 zz3 zz4 rfl (by decide) _ ml ML rfl ((Ho2.out.kept HKY.out (fun _ _ => id)).alloc _) ((Hm2.out.trans HKY.out).alloc _) Hf2.out (some ⟨_, 0, none⟩) 1 1 [.int .i64 (x.1 : Int), .int .i64 (x.2 : Int)] rfl rfl (by simp) (fun ad had => by cases had; exact cell_two_pl _ _ _ _ _ (by simp)) (by simp [Value.oneCell']) (by unfold maxLen; omega) (by omega) ?_; intro v4 w4 o4 k4 l4 f4 n4)
                | fail)
              have hb4 := (Hb2.out.kept ((HKY.out.alloc (.cells #[.int .i64 (x.1 : Int), .int .i64 (x.2 : Int)] 34))) id).kept l4 Hn2.out
              have hn4 : XB ∉ blkOf v4 := fun h => by
                have z1 := Hb2.out.lt
                rcases n4 XB h with h | h
                · exact Hn2.out h
                · simp at h; omega
              rw [← HR.out, ← HMS.out, ← HML.out] at o4
              go_roundw
              case rel => exact ⟨jj + 1, by go_num, by omega, Lib.hid k4, Lib.hid o4, Lib.hid f4, Lib.hid hb4, Lib.hid hn4⟩
              case measure => simp only [intOf]; omega
        · obtain rfl : jj = nb := by omega
          have e : b.take jj = b := by rw [Hnb.out, List.take_length]
          rw [e] at Ho2 Hf2 Hn2 ⊢
          have HE := Lib.hid (show L0 ++ b.map (andR x) = andL (a.take (k + 1)) b from HST.out.symm)
          clear e
          generalize L0 ++ b.map (andR x) = L1 at *
          generalize hll : L1.length = ll at *
          have Hll := Lib.hid hll
          clear hll
          go_wp2
          go_roundw
          case rel => exact ⟨k + 1, by go_num, by omega, Hm2, Lib.hid (by rw [← HE.out, Hll.out]; exact Ho2.out), Hf2⟩
          case measure => simp only [intOf]; omega
    · obtain rfl : k = na := by omega
      have e : a.take k = a := by rw [Hna.out, List.take_length]
      rw [e] at Ho Hf ⊢
      have hlen : (andL a b).length ≤ 1000000 := by rw [andL_length]; exact HL.out
      have R2 := Lib.hid (RV.own Ho.out)
      have HN := Lib.hid hlen
      clear e hlen
      go_wp2_with (first
        | (go_at_call 15; (with_reducible refine (HM.out _ (andL a b) _ R2.out HRA.out HN.out).mono ?_); rintro ed w3 ⟨v3, s, rfl, t1, t2, t4, t5, t6, t7, t8⟩; have T1 := Lib.hid t1; have T2 := Lib.hid t2; have T5 := Lib.hid t5; have T6 := Lib.hid t6; have T7 := Lib.hid t7; clear t1 t2 t4 t5 t6 t7 t8)
        | fail)
      go_ret
      have hl2 : (andL a b).length = k * nb := by rw [andL_length, ← Hna.out, ← Hnb.out]
      exact ⟨_, s, rfl, T1.out, T2.out, by rw [← hl2]; exact T5.out, fun z => by rw [T6.out, inR_andL], Hm.out.trans T7.out⟩
end Go.Proofs

namespace Go.Proofs
open Go.RowKit Go.Roar

set_option maxRecDepth 100000 in
set_option maxHeartbeats 1000000 in
theorem less_any (ua ub : Value) (a b : List (Nat × Nat)) (w : World) (ha : RV w ua a) (hb : RV w ub b) (hra : ∀ r ∈ a, r.1 < 4294967296 ∧ r.2 < 4294967296) (hob : RgOK 4294967296 b) (hla : a.length ≤ 1000000) (hlb : b.length ≤ 100000) (hl : a.length * (b.length + 1) ≤ 1000000) :
    Calls Tryz.prog 9 #[ua, ub] w fun e w' => ∃ v s, e = .returned v ∧ Own w' 2 34 v s.length (rcs s) ∧ RgOK 4294967296 s ∧ s.length ≤ a.length * (b.length + 1) ∧ (∀ z, z ∈ rgNums s ↔ inR a z ∧ ¬ inR b z) ∧ Mild w w' := by
  have NO := Lib.hid (not_any ub b w hb hob hlb)
  have HA := Lib.hid (fun (v : Value) (n : List (Nat × Nat)) (W : World) (k : Mild w W) (hv : RV W v n) (hn : RgOK 4294967296 n) (hln : n.length ≤ b.length + 1) => and_any ua v a n W (ha.mild k) hv hra (fun r hr => by have := hn.1 r hr; omega) hla (by omega) (Nat.le_trans (Nat.mul_le_mul_left _ hln) hl))
  have HZ := Lib.hid (fun (z : Nat) (h : inR a z) => show z < 4294967296 from by
    obtain ⟨r, hr, h1, h2⟩ := h
    have := hra r hr
    omega)
  have HM := Lib.hid (fun (n : List (Nat × Nat)) (hln : n.length ≤ b.length + 1) => Nat.mul_le_mul_left a.length hln)
  clear ha hb hra hob hla hlb hl
  go_enter Tryz.func9, Tryz.ntmps9
  go_wp2_with (first
    | (go_at_call 21; (with_reducible refine NO.out.mono ?_); rintro ed w1 ⟨v1, n, rfl, t1, t2, t3, t4, t5⟩; have T1 := Lib.hid t1; have T2 := Lib.hid t2; have T3 := Lib.hid t3; have T4 := Lib.hid t4; have K1 := Lib.hid t5; clear t1 t2 t3 t4 t5)
    | (go_at_call 20; (with_reducible refine (HA.out _ n _ K1.out (RV.own T1.out) T2.out T3.out).mono ?_); rintro ed w2 ⟨v2, s, rfl, t1, t2, t3, t4, t5⟩; have U1 := Lib.hid t1; have U2 := Lib.hid t2; have U3 := Lib.hid t3; have U4 := Lib.hid t4; have K2 := Lib.hid t5; clear t1 t2 t3 t4 t5)
    | fail)
  go_ret
  refine ⟨_, s, rfl, U1.out, U2.out, Nat.le_trans U3.out (HM.out n T3.out), fun z => ?_, K1.out.trans K2.out⟩
  rw [U4.out, T4.out]
  exact ⟨fun ⟨h1, _, h2⟩ => ⟨h1, h2⟩, fun ⟨h1, h2⟩ => ⟨h1, HZ.out z h1, h2⟩⟩
end Go.Proofs
