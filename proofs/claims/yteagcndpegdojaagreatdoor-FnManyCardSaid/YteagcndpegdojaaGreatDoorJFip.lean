/-
  Plain laws for spec.First.
  spec.First: the first numbers of a set.
  Plain laws for FnMany: what is wanted of each buffer.
-/
import Derived.Test.YteagcndpegdojaaGreatDoorJWh
import Derived.Test.YteagcndpegdojaaGreatDoorJQpl
namespace Go.Roar
open Go.RowKit Go.Proofs
def i64s (l : List Nat) : List Value := l.map fun (n : Nat) => .int .i64 (n : Int)
theorem i64s_append (a b : List Nat) : i64s (a ++ b) = i64s a ++ i64s b := by simp [i64s]
@[simp] theorem i64s_length (l : List Nat) : (i64s l).length = l.length := by simp [i64s]
theorem rgNums_take {rs : List (Nat × Nat)} {k : Nat} {r : Nat × Nat} (h : rs[k]? = some r) : rgNums (rs.take (k + 1)) = rgNums (rs.take k) ++ List.range' r.1 (r.2 - r.1 + 1) := by
  obtain ⟨hk, rfl⟩ := List.getElem?_eq_some_iff.1 h
  rw [List.take_succ_eq_append_getElem hk, rgNums_append, rgNums_cons, rgNums_nil, List.append_nil]
theorem rgCard_take {rs : List (Nat × Nat)} {k : Nat} {r : Nat × Nat} (h : rs[k]? = some r) : rgCard (rs.take k) + (r.2 - r.1 + 1) ≤ rgCard rs := by
  obtain ⟨hk, rfl⟩ := List.getElem?_eq_some_iff.1 h
  have e : rgCard rs = rgCard (rs.take (k + 1)) + rgCard (rs.drop (k + 1)) := by rw [← rgCard_append, List.take_append_drop]
  rw [List.take_succ_eq_append_getElem hk, rgCard_append, rgCard_cons] at e
  simp [rgCard] at e ⊢
  omega
end Go.Roar
namespace Go.Proofs
open Go.RowKit Go.Roar
theorem infoI64 : (Tryz.prog.info? 3).map (fun i => (i.zero, i.size, i.bytes)) = some (some (.int .i64 0), 1, 8) := by kernel_rfl
theorem undInts : Tryz.prog.underlying 38 = some (.slice 3) := by kernel_rfl
end Go.Proofs

namespace Go.Roar
open Go.RowKit Go.Proofs
theorem first_step {A0 : List Nat} {n a j full : Nat} (h1 : (A0.take n ++ List.range' a j).length ≤ n) (h2 : j ≤ full) (h3 : j = full ∨ ¬ (A0.take n ++ List.range' a j).length < n) : (A0 ++ List.range' a full).take n = A0.take n ++ List.range' a j := by
  rw [List.length_append, List.length_range', List.length_take] at h1 h3
  rw [List.take_append]
  congr 1
  rcases Nat.lt_or_ge (n - A0.length) full with h | h
  · have e : j = n - A0.length := by omega
    rw [e, show full = (n - A0.length) + (full - (n - A0.length)) by omega, range_cut, List.take_append_of_le_length (by rw [List.length_range']; exact Nat.le_refl _)]
    exact List.take_of_length_le (by rw [List.length_range']; exact Nat.le_refl _)
  · have e : j = full := by omega
    rw [e]
    exact List.take_of_length_le (by rw [List.length_range']; exact h)
end Go.Roar
namespace Go.Proofs
open Go.RowKit Go.Roar

set_option maxRecDepth 100000 in
set_option maxHeartbeats 2000000 in
theorem firstn_any (u : Value) (rs : List (Nat × Nat)) (n : Nat) (w : World) (hu : RV w u rs) (hb : ∀ r ∈ rs, r.1 ≤ r.2 ∧ r.2 < 4294967296) (hn : n ≤ 1000000) (hl : rs.length ≤ 1000000) :
    Calls Tryz.prog 11 #[u, .int .i64 (n : Int)] w fun e w' => ∃ v, e = .returned v ∧ Own w' 1 3 v ((rgNums rs).take n).length (i64s ((rgNums rs).take n)) ∧ Mild w w' ∧ (∀ b ∈ blkOf v, w.heap.size ≤ b) := by
  obtain ⟨iU, u1, u2, u3, u4⟩ := info_parts infoI64
  obtain ⟨B, d, rfl, hu⟩ := hu
  have m0 : Mild w (w.alloc (.cells #[] 3)) := (Kept.refl _ _).alloc _
  have ow0 : Own (w.alloc (.cells #[] 3)) 1 3 (.slice (some ⟨w.heap.size, 0, none⟩) 0 0) 0 [] := ⟨rfl, .inr ⟨w.heap.size, 0, [], rfl, rfl, by unfold maxLen; omega, Blk.new w _ []⟩⟩
  have M0 := Lib.hid m0
  have W0 := Lib.hid ow0
  have Hu := Lib.hid hu
  have Hb := Lib.hid hb
  clear m0 ow0 hu hb
  generalize hln : rs.length = nr at *
  have Hl := Lib.hid hln
  clear hln
  go_enter Tryz.func11, Tryz.ntmps11
  go_wp2
  go_loopw [12, 5] (fun i v wr => ∃ k : Nat, i = .int .i64 k ∧ k ≤ nr ∧ Hid (Mild w wr) ∧ Hid (Own wr 1 3 v ((rgNums (rs.take k)).take n).length (i64s ((rgNums (rs.take k)).take n))) ∧ Hid (∀ b ∈ blkOf v, w.heap.size ≤ b)) (fun i _ _ => nr - (intOf i).toNat)
  case atStart => exact ⟨0, rfl, Nat.zero_le _, M0, Lib.hid (by simpa [i64s] using W0.out), Lib.hid (by simp)⟩
  case round =>
    obtain ⟨k, rfl, hk, Hm, Ho, Hf⟩ := hrel
    by_cases hlt : k < nr
    · obtain ⟨r, hx⟩ : ∃ r, rs[k]? = some r := ⟨_, List.getElem?_eq_getElem (by rw [Hl.out]; exact hlt)⟩
      obtain ⟨g, rfl, a1, a2⟩ := Hu.out k r hx
      obtain ⟨r1, r2⟩ := Hb.out r (List.mem_of_getElem? hx)
      have ca := Hm.out.cell2 id a1
      have cb := Hm.out.cell2 id a2
      have i1 : (k : Int) < (nr : Int) := by omega
      have ht := rgNums_take hx
      have nb := Blk.new wr 34 [.int .i64 (r.1 : Int), .int .i64 (r.2 : Int)]
      have hlo := Ho.out.lt
      have Hoa := Lib.hid (Ho.out.alloc (.cells #[.int .i64 (r.1 : Int), .int .i64 (r.2 : Int)] 34))
      have Hma := Lib.hid (Hm.out.alloc (.cells #[.int .i64 (r.1 : Int), .int .i64 (r.2 : Int)] 34))
      have Hnb := Lib.hid nb
      have Hlo := Lib.hid hlo
      have Ht := Lib.hid ht
      have Hf0 := Hf
      generalize hA0 : rgNums (rs.take k) = A0 at *
      generalize hL : A0.take n = L at *
      have HL := Lib.hid hL
      have hLn : L.length ≤ n := by rw [← hL, List.length_take]; exact Nat.min_le_left _ _
      clear hL
      clear a1 a2 hx nb hlo ht
      go_wp2_with fail
      go_loopw [8, 5] (fun y v wx => ∃ x : Nat, y = .int .i64 x ∧ r.1 ≤ x ∧ x ≤ r.2 + 1 ∧ (L ++ List.range' r.1 (x - r.1)).length ≤ n ∧ Hid (Mild w wx) ∧ Hid (Own wx 1 3 v (L ++ List.range' r.1 (x - r.1)).length (i64s (L ++ List.range' r.1 (x - r.1)))) ∧ Hid (∀ b ∈ blkOf v, w.heap.size ≤ b) ∧ Hid (Blk wx wr.heap.size 34 [.int .i64 (r.1 : Int), .int .i64 (r.2 : Int)]) ∧ Hid (wr.heap.size ∉ blkOf v)) (fun y _ _ => r.2 + 1 - (intOf y).toNat)
      case atStart => exact ⟨r.1, rfl, Nat.le_refl _, by omega, by simpa using hLn, Hma, Lib.hid (by rw [Nat.sub_self, List.range'_zero, List.append_nil]; exact Hoa.out), Hf0, Hnb, Lib.hid (fun h => by have := Hlo.out _ h; omega)⟩
      case round =>
        obtain ⟨x, rfl, x1, x2, x3, Hm2, Ho2, Hf2, Hb2, Hn2⟩ := hrel
        obtain ⟨A, c, rfl⟩ := Ho2.out.form
        have g0 := Hb2.out.cell 0
        have g1 := Hb2.out.cell 1
        simp only [List.getElem?_cons_zero, List.getElem?_cons_succ] at g0 g1
        by_cases hxr : x ≤ r.2 ∧ (L ++ List.range' r.1 (x - r.1)).length < n
        · obtain ⟨hxr, hlen⟩ := hxr
          have hs : i64s (L ++ List.range' r.1 (x + 1 - r.1)) = i64s (L ++ List.range' r.1 (x - r.1)) ++ [.int .i64 (x : Int)] := by
            rw [show x + 1 - r.1 = (x - r.1) + 1 by omega, List.range'_concat, ← List.append_assoc, i64s_append]; congr 2
            simp [i64s]; omega
          have hs2 : (L ++ List.range' r.1 (x + 1 - r.1)).length = (L ++ List.range' r.1 (x - r.1)).length + 1 := by rw [List.length_append, List.length_append, List.length_range', List.length_range']; omega
          have Hs := Lib.hid hs
          have Hs2 := Lib.hid hs2
          clear hs hs2
          generalize hM : L ++ List.range' r.1 (x - r.1) = M at *
          generalize hMl : M.length = ml at *
          go_wp2_with (first
            | (at_builtin; refine wpList_append_own_at _ rfl _ _ 38 rfl 0 3 iU (.int .i64 0) 1 8 undInts u1 u2 u3 u4 rfl (by decide) _ ml (i64s M) rfl (Ho2.out.alloc _).toRow ⟨wr.heap.size, 0, none⟩ 1 1 [.int .i64 (x : Int)] rfl rfl (cell_one_new _ _ _) (by intro u hu; simp at hu; subst hu; rfl) (by unfold maxLen; omega) (by omega) (Nat.zero_le _) ?_; intro v' w4 hown' hgrow hnil hat))
          have own4 := Own.ofRow hown'
          rw [← Hs.out, ← Hs2.out] at own4
          have kA : Mild wr (wr.alloc (.cells #[.int .i64 (x : Int)] 3)) := (Kept.refl _ _).alloc _
          obtain ⟨kG, fG⟩ := grow_mild (v := .slice A ml c) Hm2.out kA hgrow Hf2.out hat
          obtain ⟨bG, nG⟩ := grow_keep (v := .slice A ml c) Hb2.out Hn2.out hgrow hat
          go_roundw
          case rel => exact ⟨x + 1, by go_num, by omega, by omega, by rw [Hs2.out]; omega, Lib.hid kG, Lib.hid own4, Lib.hid fG, Lib.hid bG, Lib.hid nG⟩
          case measure => simp only [intOf]; omega
        · have e : (A0 ++ List.range' r.1 (r.2 - r.1 + 1)).take n = L ++ List.range' r.1 (x - r.1) := by
            rw [← HL.out] at x3 hxr ⊢
            exact first_step x3 (by omega) (by omega)
          rw [← Ht.out] at e
          have HE := Lib.hid e
          clear e Ht
          generalize hM : L ++ List.range' r.1 (x - r.1) = M at *
          have HM := Lib.hid hM
          clear hM
          generalize hml : M.length = ml at *
          have Hml := Lib.hid hml
          clear hml
          by_cases hx2 : x ≤ r.2
          · have y1 : (x : Int) ≤ (r.2 : Int) := by omega
            have y2 : ¬ (ml : Int) < (n : Int) := by omega
            go_wp2
            go_roundw
            case rel => exact ⟨k + 1, by go_num, by omega, Hm2, Lib.hid (by rw [HE.out, Hml.out]; exact Ho2.out), Hf2⟩
            case measure => simp only [intOf]; omega
          · have y1 : ¬ (x : Int) ≤ (r.2 : Int) := by omega
            go_wp2
            go_roundw
            case rel => exact ⟨k + 1, by go_num, by omega, Hm2, Lib.hid (by rw [HE.out, Hml.out]; exact Ho2.out), Hf2⟩
            case measure => simp only [intOf]; omega
    · obtain rfl : k = nr := by omega
      go_wp2
      go_ret
      have e : rs.take k = rs := by rw [← Hl.out, List.take_length]
      have ho := Ho.out
      rw [e] at ho
      exact ⟨_, rfl, ho, Hm.out, Hf.out⟩
end Go.Proofs

namespace Go.Roar
theorem many_take {R : List Nat} {l n : Nat} (h : l ≤ n) : (R.take n).take (min l (R.take n).length) = R.take l := by
  rw [List.length_take, List.take_take]
  rcases Nat.lt_or_ge R.length l with h1 | h1
  · rw [List.take_of_length_le (by omega), List.take_of_length_le (by omega)]
  · congr 1; omega
theorem many_drop {R : List Nat} {l n : Nat} (h : l ≤ n) : (R.take n).drop (min l (R.take n).length) = (R.drop l).take (n - l) := by
  rw [List.length_take]
  rcases Nat.lt_or_ge R.length l with h1 | h1
  · rw [List.drop_of_length_le (by rw [List.length_take]; omega), List.drop_of_length_le (by omega), List.take_nil]
  · rw [show min l (min n R.length) = l by omega, List.drop_take]
/-- A buffer's row: the numbers that came, zeros behind them. -/
def fl32 (l : List Nat) (m n : Nat) : List Nat := l.take m ++ List.replicate (n - m) 0
theorem fl32_zero (l : List Nat) (n : Nat) : fl32 l 0 n = List.replicate n 0 := by simp [fl32]
theorem fl32_set {l : List Nat} {m n x : Nat} (hm : m < n) (hx : l[m]? = some x) : (fl32 l m n).set m x = fl32 l (m + 1) n := by
  obtain ⟨hl, rfl⟩ := List.getElem?_eq_some_iff.1 hx
  unfold fl32
  obtain ⟨d, hd⟩ : ∃ d, n - m = d + 1 := ⟨n - m - 1, by omega⟩
  have hlen : (l.take m).length = m := by rw [List.length_take]; omega
  rw [List.set_append_right _ _ (by omega), hlen, Nat.sub_self, hd, List.replicate_succ, List.set_cons_zero, List.take_succ_eq_append_getElem hl, show n - (m + 1) = d by omega, List.append_assoc]
  rfl
theorem fl32_length {l : List Nat} {m n : Nat} (h1 : m ≤ l.length) (h2 : m ≤ n) : (fl32 l m n).length = n := by
  unfold fl32
  rw [List.length_append, List.length_take, List.length_replicate]
  omega
theorem fl32_take {l : List Nat} {m n : Nat} (h1 : m ≤ l.length) : (fl32 l m n).take m = l.take m := by
  unfold fl32
  have hlen : (l.take m).length = m := by rw [List.length_take]; omega
  rw [List.take_append_of_le_length (by omega), List.take_of_length_le (by omega)]
end Go.Roar
