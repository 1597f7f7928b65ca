/-
  spec.Count, spec.Plain.
  spec.little, spec.First.
  spec.First: the numbers of a set.
  spec.body at the kind 0: a list.
  spec.body at the kind 1: bits.
  spec.body at the kind 2: runs.
  spec.Plain.
-/
import Derived.Test.YtanmgknadeoffaaGreatDoorJWh
import Derived.Test.YtanmgknadeoffaaGreatDoorJRd
import Derived.Test.YtanmgknadeoffaaGreatDoorJQpl
import Derived.Test.YtanmgknadeoffaaGreatDoorKCr
import Derived.Deep.QuietTactic
import Derived.BigQuiet
import Derived.Laws.BitsAllLaws
import Derived.Deep.DeepCutAuto
import Derived.Deep.RegionHeld3
import Derived.Deep.AppendLies
namespace Go.Proofs
open Go.RowKit Go.Roar

set_option maxRecDepth 100000 in
set_option maxHeartbeats 1000000 in
theorem count_any (u : Value) (rs : List (Nat × Nat)) (w : World) (hu : RV w u rs) (hb : ∀ r ∈ rs, r.1 ≤ r.2 ∧ r.2 < 4294967296) (hn : rs.length ≤ 1000000) :
    Calls Tryz.prog 22 #[u] w fun e w' => e = .returned (.int .i64 (rgCard rs : Nat)) ∧ Mild w w' := by
  obtain ⟨B, d, rfl, hu⟩ := hu
  have hts : ∀ (k : Nat) (r : Nat × Nat), rs[k]? = some r → rgCard (rs.take (k + 1)) = rgCard (rs.take k) + (r.2 - r.1 + 1) := by
    intro k r hx
    obtain ⟨hk, rfl⟩ := List.getElem?_eq_some_iff.1 hx
    rw [List.take_succ_eq_append_getElem hk, rgCard_append, rgCard_cons]; rfl
  have hbd : ∀ k, k ≤ rs.length → rgCard (rs.take k) ≤ k * 4294967296 := by
    intro k
    induction k with
    | zero => intro _; simp [rgCard]
    | succ k ih =>
      intro hk
      have := ih (by omega)
      have h1 := hts k rs[k] (List.getElem?_eq_getElem (by omega))
      have h2 := hb rs[k] (List.getElem_mem _)
      omega
  have Hts := Lib.hid hts
  have Hbd := Lib.hid hbd
  have Hu := Lib.hid hu
  have Hb := Lib.hid hb
  clear hu hb hts hbd
  have hl : rs.length = rs.length := rfl
  generalize hln : rs.length = n at *
  have Hl := Lib.hid hln
  clear hln hl
  go_enter Tryz.func22, Tryz.ntmps22
  go_wp2
  go_loopw [8, 3] (fun i x wr => ∃ k : Nat, i = .int .i64 k ∧ x = .int .i64 (rgCard (rs.take k) : Nat) ∧ k ≤ n ∧ Hid (Mild w wr)) (fun i _ _ => n - (intOf i).toNat)
  case atStart => exact ⟨0, rfl, rfl, Nat.zero_le _, Lib.hid (Kept.refl _ _)⟩
  case round =>
    obtain ⟨k, rfl, rfl, hk, Hm⟩ := hrel
    by_cases hlt : k < n
    · obtain ⟨r, hx⟩ : ∃ r, rs[k]? = some r := ⟨_, List.getElem?_eq_getElem (by rw [Hl.out]; exact hlt)⟩
      obtain ⟨g, rfl, a1, a2⟩ := Hu.out k r hx
      obtain ⟨r1, r2⟩ := Hb.out r (List.mem_of_getElem? hx)
      have ca := Hm.out.cell2 id a1
      have cb := Hm.out.cell2 id a2
      have i1 : (k : Int) < (n : Int) := by omega
      have t1 := Hts.out k r hx
      have t2 := Hbd.out (k + 1) (by omega)
      have t3 := Hbd.out k hk
      generalize hT1 : rgCard (rs.take (k + 1)) = T1 at *
      generalize hT0 : rgCard (rs.take k) = T0 at *
      have HT1 := Lib.hid hT1
      clear a1 a2 hx hT1 hT0
      go_wp2
      go_roundw
      case rel => exact ⟨k + 1, by go_num, by rw [HT1.out, t1]; go_num, by omega, Lib.hid (Hm.out.alloc _)⟩
      case measure => simp only [intOf]; omega
    · obtain rfl : k = n := by omega
      go_wp2
      go_ret
      have e : rs.take k = rs := by rw [← Hl.out, List.take_length]
      rw [e]
      exact ⟨rfl, Hm.out⟩
end Go.Proofs

namespace Go.Roar
open Go.RowKit Go.Proofs
/-- The lowest bytes of a number. -/
def lit (x n : Nat) : List Nat := (List.range n).map fun i => x / 256 ^ i % 256
theorem lit_succ (x n : Nat) : lit x (n + 1) = lit x n ++ [x / 256 ^ n % 256] := by simp [lit, List.range_succ]
theorem lit_length (x n : Nat) : (lit x n).length = n := by simp [lit]
theorem lit_two {x : Nat} (h : x < 65536) : lit x 2 = enc16 x := by
  simp only [lit, enc16, List.range_succ, List.range_zero, List.nil_append, List.cons_append, List.map_cons, List.map_nil]
  congr 1
  · simp
  · congr 1; rw [Nat.pow_one]; omega
theorem lit_four {x : Nat} (h : x < 4294967296) : lit x 4 = enc32 x := by
  simp only [lit, enc32, List.range_succ, List.range_zero, List.nil_append, List.cons_append, List.map_cons, List.map_nil]
  congr 1
  · simp
  · congr 1
    congr 1
    congr 1
    rw [show (256 : Nat) ^ 3 = 16777216 from rfl]; omega
end Go.Roar
namespace Go.Proofs
open Go.RowKit Go.Roar

set_option maxRecDepth 100000 in
set_option maxHeartbeats 2000000 in
theorem little_any (x n : Nat) (w : World) (hx : x < 4294967296) (hn : n ≤ 4) :
    Calls Tryz.prog 23 #[.int .i64 (x : Int), .int .i64 (n : Int)] w fun e w' => ∃ v, e = .returned v ∧ Own w' 1 5 v n (u8s (lit x n)) ∧ Mild w w' ∧ (∀ b ∈ blkOf v, w.heap.size ≤ b) := by
  obtain ⟨iU, u1, u2, u3, u4⟩ := info_parts infoU8
  have m0 : Mild w (w.alloc (.cells #[] 5)) := (Kept.refl _ _).alloc _
  have ow0 : Own (w.alloc (.cells #[] 5)) 1 5 (.slice (some ⟨w.heap.size, 0, none⟩) 0 0) 0 [] := ⟨rfl, .inr ⟨w.heap.size, 0, [], rfl, rfl, by unfold maxLen; omega, Blk.new w _ []⟩⟩
  have M0 := Lib.hid m0
  have W0 := Lib.hid ow0
  clear m0 ow0
  go_enter Tryz.func23, Tryz.ntmps23
  go_wp2
  go_loopw [9, 5] (fun i v wr => ∃ k : Nat, i = .int .i64 k ∧ k ≤ n ∧ Hid (Mild w wr) ∧ Hid (Own wr 1 5 v k (u8s (lit x k))) ∧ Hid (∀ b ∈ blkOf v, w.heap.size ≤ b)) (fun i _ _ => n - (intOf i).toNat)
  case atStart => exact ⟨0, rfl, Nat.zero_le _, M0, W0, Lib.hid (by simp)⟩
  case round =>
    obtain ⟨k, rfl, hk, Hm, Ho, Hf⟩ := hrel
    obtain ⟨A, c, rfl⟩ := Ho.out.form
    by_cases hlt : k < n
    · have hk4 : k = 0 ∨ k = 1 ∨ k = 2 ∨ k = 3 := by omega
      rcases hk4 with rfl | rfl | rfl | rfl
      · have hq : u8s (lit x (0 + 1)) = u8s (lit x 0) ++ [.int .u8 ((x : Int) % 256)] := by rw [lit_succ, u8s_append]; congr 1; simp [u8s]
        have Hq := Lib.hid hq
        clear hq
        go_wp2_with (first
          | (at_builtin; refine wpList_append_own_at _ rfl _ _ 27 rfl 0 5 iU (.int .u8 0) 1 1 undU8s u1 u2 u3 u4 rfl (by decide) _ 0 (u8s (lit x 0)) rfl (Ho.out.alloc _).toRow ⟨wr.heap.size, 0, none⟩ 1 1 [.int .u8 ((x : Int) % 256)] rfl rfl (cell_one_new _ _ _) (by intro u hu; simp at hu; subst hu; rfl) (by unfold maxLen; omega) (by omega) (Nat.zero_le _) ?_; intro v' w4 hown' hgrow hnil hat))
        have own4 := Own.ofRow hown'
        rw [← Hq.out] at own4
        have kA : Mild wr (wr.alloc (.cells #[.int .u8 ((x : Int) % 256)] 5)) := (Kept.refl _ _).alloc _
        obtain ⟨kG, fG⟩ := grow_mild (v := .slice A 0 c) Hm.out kA hgrow Hf.out hat
        go_roundw
        case rel => exact ⟨0 + 1, by go_num, by omega, Lib.hid kG, Lib.hid own4, Lib.hid fG⟩
        case measure => simp only [intOf]; omega
      · have hq : u8s (lit x (1 + 1)) = u8s (lit x 1) ++ [.int .u8 ((x : Int) / 256 % 256)] := by rw [lit_succ, u8s_append]; congr 1
        have Hq := Lib.hid hq
        clear hq
        go_wp2_with (first
          | (at_builtin; refine wpList_append_own_at _ rfl _ _ 27 rfl 0 5 iU (.int .u8 0) 1 1 undU8s u1 u2 u3 u4 rfl (by decide) _ 1 (u8s (lit x 1)) rfl (Ho.out.alloc _).toRow ⟨wr.heap.size, 0, none⟩ 1 1 [.int .u8 ((x : Int) / 256 % 256)] rfl rfl (cell_one_new _ _ _) (by intro u hu; simp at hu; subst hu; rfl) (by unfold maxLen; omega) (by omega) (Nat.zero_le _) ?_; intro v' w4 hown' hgrow hnil hat))
        have own4 := Own.ofRow hown'
        rw [← Hq.out] at own4
        have kA : Mild wr (wr.alloc (.cells #[.int .u8 ((x : Int) / 256 % 256)] 5)) := (Kept.refl _ _).alloc _
        obtain ⟨kG, fG⟩ := grow_mild (v := .slice A 1 c) Hm.out kA hgrow Hf.out hat
        go_roundw
        case rel => exact ⟨1 + 1, by go_num, by omega, Lib.hid kG, Lib.hid own4, Lib.hid fG⟩
        case measure => simp only [intOf]; omega
      · have hq : u8s (lit x (2 + 1)) = u8s (lit x 2) ++ [.int .u8 ((x : Int) / 65536 % 256)] := by rw [lit_succ, u8s_append]; congr 1
        have Hq := Lib.hid hq
        clear hq
        go_wp2_with (first
          | (at_builtin; refine wpList_append_own_at _ rfl _ _ 27 rfl 0 5 iU (.int .u8 0) 1 1 undU8s u1 u2 u3 u4 rfl (by decide) _ 2 (u8s (lit x 2)) rfl (Ho.out.alloc _).toRow ⟨wr.heap.size, 0, none⟩ 1 1 [.int .u8 ((x : Int) / 65536 % 256)] rfl rfl (cell_one_new _ _ _) (by intro u hu; simp at hu; subst hu; rfl) (by unfold maxLen; omega) (by omega) (Nat.zero_le _) ?_; intro v' w4 hown' hgrow hnil hat))
        have own4 := Own.ofRow hown'
        rw [← Hq.out] at own4
        have kA : Mild wr (wr.alloc (.cells #[.int .u8 ((x : Int) / 65536 % 256)] 5)) := (Kept.refl _ _).alloc _
        obtain ⟨kG, fG⟩ := grow_mild (v := .slice A 2 c) Hm.out kA hgrow Hf.out hat
        go_roundw
        case rel => exact ⟨2 + 1, by go_num, by omega, Lib.hid kG, Lib.hid own4, Lib.hid fG⟩
        case measure => simp only [intOf]; omega
      · have hq : u8s (lit x (3 + 1)) = u8s (lit x 3) ++ [.int .u8 ((x : Int) / 16777216)] := by
          rw [lit_succ, u8s_append]
          congr 1
          simp only [u8s, List.map_cons, List.map_nil]
          congr 1
          exact int_eq (by rw [show (256 : Nat) ^ 3 = 16777216 from rfl]; omega)
        have Hq := Lib.hid hq
        clear hq
        go_wp2_with (first
          | (at_builtin; refine wpList_append_own_at _ rfl _ _ 27 rfl 0 5 iU (.int .u8 0) 1 1 undU8s u1 u2 u3 u4 rfl (by decide) _ 3 (u8s (lit x 3)) rfl (Ho.out.alloc _).toRow ⟨wr.heap.size, 0, none⟩ 1 1 [.int .u8 ((x : Int) / 16777216)] rfl rfl (cell_one_new _ _ _) (by intro u hu; simp at hu; subst hu; rfl) (by unfold maxLen; omega) (by omega) (Nat.zero_le _) ?_; intro v' w4 hown' hgrow hnil hat))
        have own4 := Own.ofRow hown'
        rw [← Hq.out] at own4
        have kA : Mild wr (wr.alloc (.cells #[.int .u8 ((x : Int) / 16777216)] 5)) := (Kept.refl _ _).alloc _
        obtain ⟨kG, fG⟩ := grow_mild (v := .slice A 3 c) Hm.out kA hgrow Hf.out hat
        go_roundw
        case rel => exact ⟨3 + 1, by go_num, by omega, Lib.hid kG, Lib.hid own4, Lib.hid fG⟩
        case measure => simp only [intOf]; omega
    · obtain rfl : k = n := by omega
      go_wp2
      go_ret
      exact ⟨_, rfl, Ho.out, Hm.out, Hf.out⟩
end Go.Proofs

namespace Go.Roar
open Go.RowKit Go.Proofs
def i64s (l : List Nat) : List Value := l.map fun (n : Nat) => .int .i64 (n : Int)
theorem i64s_append (a b : List Nat) : i64s (a ++ b) = i64s a ++ i64s b := by simp [i64s]
@[simp] theorem i64s_length (l : List Nat) : (i64s l).length = l.length := by simp [i64s]
theorem rgNums_take {rs : List (Nat × Nat)} {k : Nat} {r : Nat × Nat} (h : rs[k]? = some r) : rgNums (rs.take (k + 1)) = rgNums (rs.take k) ++ List.range' r.1 (r.2 - r.1 + 1) := by
  obtain ⟨hk, rfl⟩ := List.getElem?_eq_some_iff.1 h
  rw [List.take_succ_eq_append_getElem hk, rgNums_append, rgNums_cons, rgNums_nil, List.append_nil]
theorem rgCard_take {rs : List (Nat × Nat)} {k : Nat} {r : Nat × Nat} (h : rs[k]? = some r) : rgCard (rs.take k) + (r.2 - r.1 + 1) ≤ rgCard rs := by
  obtain ⟨hk, rfl⟩ := List.getElem?_eq_some_iff.1 h
  have e : rgCard rs = rgCard (rs.take (k + 1)) + rgCard (rs.drop (k + 1)) := by rw [← rgCard_append, List.take_append_drop]
  rw [List.take_succ_eq_append_getElem hk, rgCard_append, rgCard_cons] at e
  simp [rgCard] at e ⊢
  omega
end Go.Roar
namespace Go.Proofs
open Go.RowKit Go.Roar
theorem infoI64 : (Tryz.prog.info? 3).map (fun i => (i.zero, i.size, i.bytes)) = some (some (.int .i64 0), 1, 8) := by kernel_rfl
theorem undInts : Tryz.prog.underlying 31 = some (.slice 3) := by kernel_rfl

set_option maxRecDepth 100000 in
set_option maxHeartbeats 2000000 in
theorem first_any (u : Value) (rs : List (Nat × Nat)) (n : Nat) (w : World) (hu : RV w u rs) (hb : ∀ r ∈ rs, r.1 ≤ r.2 ∧ r.2 < 4294967296) (hc : rgCard rs ≤ n) (hn : n ≤ 1000000) (hl : rs.length ≤ 1000000) :
    Calls Tryz.prog 36 #[u, .int .i64 (n : Int)] w fun e w' => ∃ v, e = .returned v ∧ Own w' 1 3 v (rgNums rs).length (i64s (rgNums rs)) ∧ Mild w w' ∧ (∀ b ∈ blkOf v, w.heap.size ≤ b) := by
  obtain ⟨iU, u1, u2, u3, u4⟩ := info_parts infoI64
  obtain ⟨B, d, rfl, hu⟩ := hu
  have m0 : Mild w (w.alloc (.cells #[] 3)) := (Kept.refl _ _).alloc _
  have ow0 : Own (w.alloc (.cells #[] 3)) 1 3 (.slice (some ⟨w.heap.size, 0, none⟩) 0 0) 0 [] := ⟨rfl, .inr ⟨w.heap.size, 0, [], rfl, rfl, by unfold maxLen; omega, Blk.new w _ []⟩⟩
  have M0 := Lib.hid m0
  have W0 := Lib.hid ow0
  have Hu := Lib.hid hu
  have Hb := Lib.hid hb
  have Hc := Lib.hid hc
  clear m0 ow0 hu hb hc
  generalize hln : rs.length = nr at *
  have Hl := Lib.hid hln
  clear hln
  go_enter Tryz.func36, Tryz.ntmps36
  go_wp2
  go_loopw [12, 5] (fun i v wr => ∃ k : Nat, i = .int .i64 k ∧ k ≤ nr ∧ Hid (Mild w wr) ∧ Hid (Own wr 1 3 v (rgNums (rs.take k)).length (i64s (rgNums (rs.take k)))) ∧ Hid (∀ b ∈ blkOf v, w.heap.size ≤ b)) (fun i _ _ => nr - (intOf i).toNat)
  case atStart => exact ⟨0, rfl, Nat.zero_le _, M0, W0, Lib.hid (by simp)⟩
  case round =>
    obtain ⟨k, rfl, hk, Hm, Ho, Hf⟩ := hrel
    by_cases hlt : k < nr
    · obtain ⟨r, hx⟩ : ∃ r, rs[k]? = some r := ⟨_, List.getElem?_eq_getElem (by rw [Hl.out]; exact hlt)⟩
      obtain ⟨g, rfl, a1, a2⟩ := Hu.out k r hx
      obtain ⟨r1, r2⟩ := Hb.out r (List.mem_of_getElem? hx)
      have ca := Hm.out.cell2 id a1
      have cb := Hm.out.cell2 id a2
      have i1 : (k : Int) < (nr : Int) := by omega
      have ht := rgNums_take hx
      have hct := rgCard_take hx
      have hcn := Hc.out
      have hL0 := rgNums_length (rs.take k)
      have nb := Blk.new wr 50 [.int .i64 (r.1 : Int), .int .i64 (r.2 : Int)]
      have hlo := Ho.out.lt
      have Hoa := Lib.hid (Ho.out.alloc (.cells #[.int .i64 (r.1 : Int), .int .i64 (r.2 : Int)] 50))
      have Hma := Lib.hid (Hm.out.alloc (.cells #[.int .i64 (r.1 : Int), .int .i64 (r.2 : Int)] 50))
      have Hnb := Lib.hid nb
      have Hlo := Lib.hid hlo
      have Ht := Lib.hid ht
      have Hf0 := Hf
      generalize hL : rgNums (rs.take k) = L at *
      clear a1 a2 hx nb hlo ht
      go_wp2_with fail
      go_loopw [8, 5] (fun y v wx => ∃ x : Nat, y = .int .i64 x ∧ r.1 ≤ x ∧ x ≤ r.2 + 1 ∧ Hid (Mild w wx) ∧ Hid (Own wx 1 3 v (L ++ List.range' r.1 (x - r.1)).length (i64s (L ++ List.range' r.1 (x - r.1)))) ∧ Hid (∀ b ∈ blkOf v, w.heap.size ≤ b) ∧ Hid (Blk wx wr.heap.size 50 [.int .i64 (r.1 : Int), .int .i64 (r.2 : Int)]) ∧ Hid (wr.heap.size ∉ blkOf v)) (fun y _ _ => r.2 + 1 - (intOf y).toNat)
      case atStart => exact ⟨r.1, rfl, Nat.le_refl _, by omega, Hma, Lib.hid (by rw [Nat.sub_self, List.range'_zero, List.append_nil]; exact Hoa.out), Hf0, Hnb, Lib.hid (fun h => by have := Hlo.out _ h; omega)⟩
      case round =>
        obtain ⟨x, rfl, x1, x2, Hm2, Ho2, Hf2, Hb2, Hn2⟩ := hrel
        obtain ⟨A, c, rfl⟩ := Ho2.out.form
        have g0 := Hb2.out.cell 0
        have g1 := Hb2.out.cell 1
        simp only [List.getElem?_cons_zero, List.getElem?_cons_succ] at g0 g1
        have hll : (L ++ List.range' r.1 (x - r.1)).length = rgCard (rs.take k) + (x - r.1) := by rw [List.length_append, List.length_range', hL0]
        by_cases hxr : x ≤ r.2
        · have hlen : (L ++ List.range' r.1 (x - r.1)).length < n := by omega
          have hs : i64s (L ++ List.range' r.1 (x + 1 - r.1)) = i64s (L ++ List.range' r.1 (x - r.1)) ++ [.int .i64 (x : Int)] := by
            rw [show x + 1 - r.1 = (x - r.1) + 1 by omega, List.range'_concat, ← List.append_assoc, i64s_append]; congr 2
            simp [i64s]; omega
          have hs2 : (L ++ List.range' r.1 (x + 1 - r.1)).length = (L ++ List.range' r.1 (x - r.1)).length + 1 := by rw [List.length_append, List.length_append, List.length_range', List.length_range']; omega
          have Hs := Lib.hid hs
          have Hs2 := Lib.hid hs2
          clear hs hs2 hll
          generalize hM : L ++ List.range' r.1 (x - r.1) = M at *
          generalize hMl : M.length = ml at *
          go_wp2_with (first
            | (at_builtin; refine wpList_append_own_at _ rfl _ _ 31 rfl 0 3 iU (.int .i64 0) 1 8 undInts u1 u2 u3 u4 rfl (by decide) _ ml (i64s M) rfl (Ho2.out.alloc _).toRow ⟨wr.heap.size, 0, none⟩ 1 1 [.int .i64 (x : Int)] rfl rfl (cell_one_new _ _ _) (by intro u hu; simp at hu; subst hu; rfl) (by unfold maxLen; omega) (by omega) (Nat.zero_le _) ?_; intro v' w4 hown' hgrow hnil hat))
          have own4 := Own.ofRow hown'
          rw [← Hs.out, ← Hs2.out] at own4
          have kA : Mild wr (wr.alloc (.cells #[.int .i64 (x : Int)] 3)) := (Kept.refl _ _).alloc _
          obtain ⟨kG, fG⟩ := grow_mild (v := .slice A ml c) Hm2.out kA hgrow Hf2.out hat
          obtain ⟨bG, nG⟩ := grow_keep (v := .slice A ml c) Hb2.out Hn2.out hgrow hat
          go_roundw
          case rel => exact ⟨x + 1, by go_num, by omega, by omega, Lib.hid kG, Lib.hid own4, Lib.hid fG, Lib.hid bG, Lib.hid nG⟩
          case measure => simp only [intOf]; omega
        · obtain rfl : x = r.2 + 1 := by omega
          have e : L ++ List.range' r.1 (r.2 + 1 - r.1) = rgNums (rs.take (k + 1)) := by rw [Ht.out, show r.2 + 1 - r.1 = r.2 - r.1 + 1 by omega]
          rw [e] at Ho2 Hf2 Hn2 ⊢
          clear hll e Ht
          generalize hM : rgNums (rs.take (k + 1)) = M at *
          have HM := Lib.hid hM
          clear hM
          generalize hml : M.length = ml at *
          have Hml := Lib.hid hml
          clear hml
          go_wp2
          go_roundw
          case rel => exact ⟨k + 1, by go_num, by omega, Hm2, Lib.hid (by rw [HM.out, Hml.out]; exact Ho2.out), Hf2⟩
          case measure => simp only [intOf]; omega
    · obtain rfl : k = nr := by omega
      go_wp2
      go_ret
      have e : rs.take k = rs := by rw [← Hl.out, List.take_length]
      have ho := Ho.out
      rw [e] at ho
      exact ⟨_, rfl, ho, Hm.out, Hf.out⟩
end Go.Proofs

namespace Go.Roar
open Go.RowKit Go.Proofs
theorem flat_take {l : List Nat} {k x : Nat} (h : l[k]? = some x) : (l.take (k + 1)).flatMap enc16 = (l.take k).flatMap enc16 ++ enc16 x := by
  obtain ⟨hk, rfl⟩ := List.getElem?_eq_some_iff.1 h
  rw [List.take_succ_eq_append_getElem hk, List.flatMap_append]; simp
end Go.Roar
namespace Go.Proofs
open Go.RowKit Go.Roar

set_option maxRecDepth 100000 in
set_option maxHeartbeats 2000000 in
theorem body0_any (u : Value) (rs : List (Nat × Nat)) (w : World) (hu : RV w u rs) (hr : RgOK 65536 rs) (hc : rgCard rs ≤ 65536) (hl : rs.length ≤ 65536) :
    Calls Tryz.prog 24 #[u, .int .i64 0] w fun e w' => ∃ v, e = .returned v ∧ Own w' 1 5 v (bodyOf rs 0).length (u8s (bodyOf rs 0)) ∧ Mild w w' ∧ (∀ b ∈ blkOf v, w.heap.size ≤ b) := by
  obtain ⟨iU, u1, u2, u3, u4⟩ := info_parts infoU8
  have m0 : Mild w (w.alloc (.cells #[] 5)) := (Kept.refl _ _).alloc _
  have ow0 : Own (w.alloc (.cells #[] 5)) 1 5 (.slice (some ⟨w.heap.size, 0, none⟩) 0 0) 0 [] := ⟨rfl, .inr ⟨w.heap.size, 0, [], rfl, rfl, by unfold maxLen; omega, Blk.new w _ []⟩⟩
  have hFi := first_any u rs 65536 _ (hu.mild m0) (fun r hx => by have := hr.1 r hx; omega) hc (by omega) (by omega)
  have hlt := rgNums_lt hr
  have hlen := rgNums_length rs
  have hbd : bodyOf rs 0 = (rgNums rs).flatMap enc16 := by unfold bodyOf; rw [if_pos rfl]
  have M0 := Lib.hid m0
  have W0 := Lib.hid ow0
  have HF := Lib.hid hFi
  have Hlt := Lib.hid hlt
  have Hbd := Lib.hid hbd
  clear m0 ow0 hFi hlt hbd hu hr
  generalize rgNums rs = l at *
  have hl2 : l.length ≤ 65536 := by omega
  clear hlen hc hl
  generalize hll : l.length = n at *
  have Hll := Lib.hid hll
  clear hll
  go_enter Tryz.func24, Tryz.ntmps24
  go_wp2_with (first
    | (go_at_call 36; refine HF.out.mono ?_; rintro ed w2 ⟨vl, rfl, ol, k2, fl⟩; obtain ⟨A, c, rfl⟩ := ol.form))
  have Hol := Lib.hid ol
  have hz : w.heap.size < (w.alloc (.cells #[] 5)).heap.size := by simp
  have Hd0 : Hid (∀ b ∈ blkOf (.slice A n c), b ∉ blkOf (.slice (some ⟨w.heap.size, 0, none⟩) 0 0)) := Lib.hid (fun b hb h => by have := fl b hb; simp at h; omega)
  have Hm2 : Hid (Mild w w2) := Lib.hid (M0.out.trans k2)
  have Hw2 : Hid (Own w2 1 5 (.slice (some ⟨w.heap.size, 0, none⟩) 0 0) 0 []) := Lib.hid (W0.out.kept k2 (fun _ _ => id))
  clear ol fl k2 hz
  go_loopw [22, 5] (fun i v wr => ∃ k : Nat, i = .int .i64 k ∧ k ≤ n ∧ Hid (Mild w wr) ∧ Hid (Own wr 1 5 v (2 * k) (u8s ((l.take k).flatMap enc16))) ∧ Hid (∀ b ∈ blkOf v, w.heap.size ≤ b) ∧ Hid (Own wr 1 3 (.slice A n c) n (i64s l)) ∧ Hid (∀ b ∈ blkOf (.slice A n c), b ∉ blkOf v)) (fun i _ _ => n - (intOf i).toNat)
  case atStart => exact ⟨0, rfl, Nat.zero_le _, Hm2, Hw2, Lib.hid (by simp), Hol, Hd0⟩
  case round =>
    obtain ⟨k, rfl, hk, Hm, Ho, Hf, Hi, Hd⟩ := hrel
    obtain ⟨B, d, rfl⟩ := Ho.out.form
    by_cases hlt : k < n
    · obtain ⟨g, kk, rr, hv, _, _, hbk⟩ := Hi.out.open (by omega)
      simp only [Value.slice.injEq] at hv
      obtain ⟨rfl, _, rfl⟩ := hv
      obtain ⟨x, hx⟩ : ∃ x, l[k]? = some x := ⟨_, List.getElem?_eq_getElem (by rw [Hll.out]; exact hlt)⟩
      have hx16 := Hlt.out x (List.mem_of_getElem? hx)
      have cx : wr.cell? ⟨g, k, none⟩ = some (.int .i64 (x : Int)) := Hi.out.at (by simp [i64s, hx])
      have i1 : (k : Int) < (n : Int) := by omega
      have hs : u8s ((l.take (k + 1)).flatMap enc16) = u8s ((l.take k).flatMap enc16) ++ u8s (enc16 x) := by rw [flat_take hx, u8s_append]
      have Hs := Lib.hid hs
      have L := Lib.hid (little_any x 2 wr (by omega) (by omega))
      rw [lit_two hx16] at L
      clear hs hx hbk
      go_wp2_with (first
        | (go_at_call 23; refine L.out.mono ?_; rintro ed w3 ⟨v3, rfl, o3, k3, f3⟩; obtain ⟨g3, q3, r3, rfl, _, _, _⟩ := o3.open (by omega))
        | (at_builtin; refine wpList_append_own_at _ rfl _ _ 27 rfl 0 5 iU (.int .u8 0) 1 1 undU8s u1 u2 u3 u4 rfl (by decide) _ (2 * k) (u8s ((l.take k).flatMap enc16)) rfl (Ho.out.kept k3 (fun _ _ => id)).toRow ⟨g3, 0, none⟩ 2 (2 + q3) (u8s (enc16 x)) rfl rfl (own_news o3) (u8s_each _) (by unfold maxLen; omega) (by omega) (Nat.zero_le _) ?_; intro v' w4 hown' hgrow hnil hat))
      have own4 := Own.ofRow hown'
      rw [← Hs.out, show 2 * k + 2 = 2 * (k + 1) by omega] at own4
      obtain ⟨kG, fG⟩ := grow_mild (v := .slice B (2 * k) d) Hm.out k3 hgrow Hf.out hat
      obtain ⟨oG, dG⟩ := grow_apart (v := .slice B (2 * k) d) (Hi.out.kept k3 (fun _ _ => id)) Hd.out hgrow hat
      go_roundw
      case rel => exact ⟨k + 1, by go_num, by omega, Lib.hid kG, Lib.hid own4, Lib.hid fG, Lib.hid oG, Lib.hid dG⟩
      case measure => simp only [intOf]; omega
    · obtain rfl : k = n := by omega
      go_wp2
      go_ret
      have e : l.take k = l := by rw [← Hll.out, List.take_length]
      have ho := Ho.out
      rw [e, ← Hbd.out] at ho
      have e2 : (bodyOf rs 0).length = 2 * k := by have := ho.len; simp at this; omega
      exact ⟨_, rfl, by rw [e2]; exact ho, Hm.out, Hf.out⟩
end Go.Proofs

namespace Go.Roar
open Go.RowKit Go.Proofs
theorem setBits_step (l : List Nat) (bs : List Nat) (a n : Nat) : (l ++ List.range' a (n + 1)).foldl setBit bs = setBit ((l ++ List.range' a n).foldl setBit bs) (a + n) := by
  rw [List.range'_concat, ← List.append_assoc, List.foldl_append]; simp
end Go.Roar
namespace Go.Proofs
open Go.RowKit Go.Roar

set_option maxRecDepth 100000 in
set_option maxHeartbeats 2000000 in
theorem body1_any (u : Value) (rs : List (Nat × Nat)) (w : World) (hu : RV w u rs) (hr : RgOK 65536 rs) (hl : rs.length ≤ 65536) :
    Calls Tryz.prog 24 #[u, .int .i64 1] w fun e w' => ∃ v, e = .returned v ∧ Own w' 1 5 v (bodyOf rs 1).length (u8s (bodyOf rs 1)) ∧ Mild w w' ∧ (∀ b ∈ blkOf v, w.heap.size ≤ b) := by
  obtain ⟨iU, u1, u2, u3, u4⟩ := info_parts infoU8
  obtain ⟨B, d, rfl, hu⟩ := hu
  have Hu := Lib.hid hu
  have Hr := Lib.hid hr
  have hbd : bodyOf rs 1 = bitBytes (rgNums rs) := by unfold bodyOf; rw [if_neg (by decide), if_pos rfl]
  have Hbd := Lib.hid hbd
  clear hu hr hbd
  generalize hln : rs.length = nr at *
  have Hl := Lib.hid hln
  clear hln
  go_enter Tryz.func24, Tryz.ntmps24
  go_wp2_with (first
    | (at_make; refine wpList_make_blk rfl (.const (.int .i64 8192)) (.const (.int .i64 8192)) 27 rfl 5 iU (.int .u8 0) 1 undU8s u1 u2 u3 .i64 .i64 _ _ 8192 rfl rfl rfl rfl (by rw [u4]; omega) (by unfold maxLen; omega) ?_; intro w1 hbk hk hsz))
  rw [made_u8s] at hbk
  have Hk1 := Lib.hid hk
  have Hbk := Lib.hid hbk
  clear hk hbk
  go_loopw [37] (fun i wr => ∃ k : Nat, i = .int .i64 k ∧ k ≤ nr ∧ Hid (Mild w wr) ∧ Hid (Blk wr w.heap.size 5 (u8s ((rgNums (rs.take k)).foldl setBit (List.replicate 8192 0))))) (fun i _ => nr - (intOf i).toNat)
  case atStart => exact ⟨0, rfl, Nat.zero_le _, Hk1, Hbk⟩
  case round =>
    obtain ⟨k, rfl, hk, Hm, Hb⟩ := hrel
    by_cases hlt : k < nr
    · obtain ⟨r, hx⟩ : ∃ r, rs[k]? = some r := ⟨_, List.getElem?_eq_getElem (by rw [Hl.out]; exact hlt)⟩
      obtain ⟨g, rfl, a1, a2⟩ := Hu.out k r hx
      obtain ⟨r1, r2⟩ := Hr.out.1 r (List.mem_of_getElem? hx)
      have ca := Hm.out.cell2 id a1
      have cb := Hm.out.cell2 id a2
      have i1 : (k : Int) < (nr : Int) := by omega
      have Ht := Lib.hid (rgNums_take hx)
      have Hnb := Lib.hid (Blk.new wr 50 [.int .i64 (r.1 : Int), .int .i64 (r.2 : Int)])
      have Hba := Lib.hid (Hb.out.alloc (.cells #[.int .i64 (r.1 : Int), .int .i64 (r.2 : Int)] 50))
      have Hma := Lib.hid (Hm.out.alloc (.cells #[.int .i64 (r.1 : Int), .int .i64 (r.2 : Int)] 50))
      have hne := Hb.out.lt
      generalize hL : rgNums (rs.take k) = L at *
      clear a1 a2 hx
      go_wp2_with fail
      go_loopw [11] (fun y wx => ∃ x : Nat, y = .int .i64 x ∧ r.1 ≤ x ∧ x ≤ r.2 + 1 ∧ Hid (Mild w wx) ∧ Hid (Blk wx w.heap.size 5 (u8s ((L ++ List.range' r.1 (x - r.1)).foldl setBit (List.replicate 8192 0)))) ∧ Hid (Blk wx wr.heap.size 50 [.int .i64 (r.1 : Int), .int .i64 (r.2 : Int)])) (fun y _ => r.2 + 1 - (intOf y).toNat)
      case atStart => exact ⟨r.1, rfl, Nat.le_refl _, by omega, Hma, Lib.hid (by rw [Nat.sub_self, List.range'_zero, List.append_nil]; exact Hba.out), Hnb⟩
      case round =>
        obtain ⟨x, rfl, x1, x2, Hm2, Hb2, Hq2⟩ := hrel
        have g0 := Hq2.out.cell 0
        have g1 := Hq2.out.cell 1
        simp only [List.getElem?_cons_zero, List.getElem?_cons_succ] at g0 g1
        by_cases hxr : x ≤ r.2
        · have hst := setBits_step L (List.replicate 8192 0) r.1 (x - r.1)
          rw [show x - r.1 + 1 = x + 1 - r.1 by omega, show r.1 + (x - r.1) = x by omega] at hst
          have hbl : ((L ++ List.range' r.1 (x - r.1)).foldl setBit (List.replicate 8192 0)).length = 8192 := by rw [setBits_length, List.length_replicate]
          have hby := setBits_byte (L ++ List.range' r.1 (x - r.1)) (bs := List.replicate 8192 0) (by intro b hb; have := (List.mem_replicate.1 hb).2; omega)
          have Hst := Lib.hid hst
          clear hst
          generalize hM : (L ++ List.range' r.1 (x - r.1)).foldl setBit (List.replicate 8192 0) = M at *
          have hgb := getD_le hby (x / 8)
          have hat : M[x / 8]? = some (M.getD (x / 8) 0) := by rw [List.getD_eq_getElem?_getD, List.getElem?_eq_getElem (by omega)]; rfl
          have c0 : wr.drew.cell? ⟨w.heap.size, x / 8, none⟩ = some (.int .u8 ((M.getD (x / 8) 0 : Nat) : Int)) := (Hb2.out.cell _).trans (u8s_at hat)
          have cf : wr.drew.frozen? ⟨w.heap.size, x / 8, none⟩ = false := Hb2.out.free _
          obtain ⟨_, p8'⟩ := pow_8 (x % 8) (by omega)
          have hor := u8_or_nat (M.getD (x / 8) 0) (2 ^ (x % 8)) hgb p8'
          rw [show ((2 ^ (x % 8) : Nat) : Int) = (2 : Int) ^ (x % 8) by simp] at hor
          have hset : (u8s M).set (x / 8) (.int .u8 ((M.getD (x / 8) 0 ||| 2 ^ (x % 8) : Nat) : Int)) = u8s (setBit M x) := by rw [u8s_set]; rfl
          generalize M.getD (x / 8) 0 = fb at *
          have q8 : (x : Int) / 8 < 8192 := by omega
          have Hset := Lib.hid hset
          clear hset hby hbl hat hM
          go_wp2_with fail
          have d1 : (x : Int).tdiv 8 = (x : Int) / 8 := Int.tdiv_eq_ediv_of_nonneg (by omega)
          have d2 : (x : Int).tmod 8 = (x : Int) % 8 := Int.tmod_eq_emod_of_nonneg (by omega)
          have d3 : ((x : Int) / 8).toNat = x / 8 := by omega
          have d4 : ((x : Int) % 8).toNat = x % 8 := by omega
          have d5 : (0 : Int) ≤ (x : Int) / 8 := by omega
          have d6 : (0 : Int) ≤ (x : Int) % 8 := by omega
          have d7 : IntKind.i64.wrap ((x : Int) / 8) = (x : Int) / 8 := IntWalk.i64_in _ (by omega)
          have d8 : IntKind.i64.wrap ((x : Int) % 8) = (x : Int) % 8 := IntWalk.i64_in _ (by omega)
          refine wp_region_tail 10 (by kernel_rfl) (by decide +kernel) ?_
          simp only [List.take_succ_cons, List.take_zero, List.drop_succ_cons, List.drop_zero]
          repeat still_step
          refine wpStill_nil ?_
          show wpList _ _ _ _ _ _
          clear d1 d2 d5 d6 d7 d8
          go_wp2
          go_roundw
          case rel =>
            refine ⟨x + 1, by go_num, by omega, by omega, Lib.hid (Kept.drew (Kept.setCell (p := ⟨w.heap.size, x / 8, none⟩) Hm2.out (fun h => absurd h (Nat.lt_irrefl _)) _)), Lib.hid ?_, Lib.hid ((Hq2.out.set_ne (by omega) _ _).drew)⟩
            rw [Hst.out, ← Hset.out]
            exact (Hb2.out.set _ _).drew
          case measure => simp only [intOf]; omega
        · obtain rfl : x = r.2 + 1 := by omega
          have e : L ++ List.range' r.1 (r.2 + 1 - r.1) = rgNums (rs.take (k + 1)) := by rw [Ht.out, show r.2 + 1 - r.1 = r.2 - r.1 + 1 by omega]
          rw [e] at Hb2
          go_wp2
          go_roundw
          case rel => exact ⟨k + 1, by go_num, by omega, Hm2, Hb2⟩
          case measure => simp only [intOf]; omega
    · obtain rfl : k = nr := by omega
      go_wp2
      go_ret
      have e : rs.take k = rs := by rw [← Hl.out, List.take_length]
      have hb := Hb.out
      rw [e] at hb
      refine ⟨_, rfl, ?_, Hm.out, by simp⟩
      rw [Hbd.out]
      have hlen : (bitBytes (rgNums rs)).length = 8192 := by unfold bitBytes; rw [setBits_length, List.length_replicate]
      exact ⟨by simp, .inr ⟨w.heap.size, 0, [], by simp [hlen], rfl, by rw [hlen]; unfold maxLen; omega, by rw [List.append_nil]; exact hb⟩⟩
end Go.Proofs

namespace Go.Roar
open Go.RowKit Go.Proofs
theorem runs_take {rs : List (Nat × Nat)} {k : Nat} {r : Nat × Nat} (h : rs[k]? = some r) : (runNums (rs.take (k + 1))).flatMap enc16 = (runNums (rs.take k)).flatMap enc16 ++ enc16 r.1 ++ enc16 (r.2 - r.1) := by
  obtain ⟨hk, rfl⟩ := List.getElem?_eq_some_iff.1 h
  unfold runNums
  rw [List.take_succ_eq_append_getElem hk, List.flatMap_append, List.flatMap_append]
  simp
end Go.Roar
namespace Go.Proofs
open Go.RowKit Go.Roar

theorem little16 (x : Nat) (w : World) (hx : x < 65536) :
    Calls Tryz.prog 23 #[.int .i64 (x : Int), .int .i64 2] w fun e w' => ∃ g c, e = .returned (.slice (some ⟨g, 0, none⟩) 2 c) ∧ Own w' 1 5 (.slice (some ⟨g, 0, none⟩) 2 c) 2 (u8s (enc16 x)) ∧ Mild w w' ∧ w.heap.size ≤ g := by
  have h := little_any x 2 w (by omega) (by omega)
  rw [lit_two hx] at h
  refine h.mono ?_
  rintro e w' ⟨v, rfl, o, k, f⟩
  obtain ⟨g, q, r, rfl, _⟩ := o.open (by omega)
  exact ⟨g, _, rfl, o, k, f g (by simp)⟩

set_option maxRecDepth 100000 in
set_option maxHeartbeats 4000000 in
theorem body2_any (u : Value) (rs : List (Nat × Nat)) (w : World) (hu : RV w u rs) (hr : RgOK 65536 rs) (hl : rs.length ≤ 60000) :
    Calls Tryz.prog 24 #[u, .int .i64 2] w fun e w' => ∃ v, e = .returned v ∧ Own w' 1 5 v (bodyOf rs 2).length (u8s (bodyOf rs 2)) ∧ Mild w w' ∧ (∀ b ∈ blkOf v, w.heap.size ≤ b) := by
  obtain ⟨iU, u1, u2, u3, u4⟩ := info_parts infoU8
  obtain ⟨B, d, rfl, hu⟩ := hu
  have hbd : bodyOf rs 2 = enc16 rs.length ++ (runNums rs).flatMap enc16 := by unfold bodyOf; rw [if_neg (by decide), if_neg (by decide)]
  have hLi := little_any rs.length 2 w (by omega) (by omega)
  rw [lit_two (by omega)] at hLi
  have HLi := Lib.hid hLi
  have Hu := Lib.hid hu
  have Hr := Lib.hid hr
  have Hbd := Lib.hid hbd
  clear hu hr hbd hLi
  generalize hln : rs.length = nr at *
  have Hl := Lib.hid hln
  clear hln
  go_enter Tryz.func24, Tryz.ntmps24
  go_wp2_with (first
    | (go_at_call 23; refine HLi.out.mono ?_; rintro ed w1 ⟨v1, rfl, o1, k1, f1⟩))
  have Ho1 := Lib.hid o1
  have Hk1 := Lib.hid k1
  have Hf1 := Lib.hid f1
  clear o1 k1 f1
  go_loopw [66, 12] (fun i v wr => ∃ k : Nat, i = .int .i64 k ∧ k ≤ nr ∧ Hid (Mild w wr) ∧ Hid (Own wr 1 5 v (2 + 4 * k) (u8s (enc16 nr ++ (runNums (rs.take k)).flatMap enc16))) ∧ Hid (∀ b ∈ blkOf v, w.heap.size ≤ b)) (fun i _ _ => nr - (intOf i).toNat)
  case atStart => exact ⟨0, rfl, Nat.zero_le _, Hk1, Lib.hid (by simpa [runNums] using Ho1.out), Hf1⟩
  case round =>
    obtain ⟨k, rfl, hk, Hm, Ho, Hf⟩ := hrel
    obtain ⟨A, c, rfl⟩ := Ho.out.form
    by_cases hlt : k < nr
    · obtain ⟨r, hx⟩ : ∃ r, rs[k]? = some r := ⟨_, List.getElem?_eq_getElem (by rw [Hl.out]; exact hlt)⟩
      obtain ⟨g, rfl, a1, a2⟩ := Hu.out k r hx
      obtain ⟨r1, r2⟩ := Hr.out.1 r (List.mem_of_getElem? hx)
      have ca := Hm.out.cell2 id a1
      have cb := Hm.out.cell2 id a2
      have i1 : (k : Int) < (nr : Int) := by omega
      have Ht := Lib.hid (runs_take hx)
      have hnb := Blk.new wr 50 [.int .i64 (r.1 : Int), .int .i64 (r.2 : Int)]
      have Hoa := Lib.hid (Ho.out.alloc (.cells #[.int .i64 (r.1 : Int), .int .i64 (r.2 : Int)] 50))
      have Hma := Lib.hid (Hm.out.alloc (.cells #[.int .i64 (r.1 : Int), .int .i64 (r.2 : Int)] 50))
      clear a1 a2 hx
      go_wp2_with fail
      have g0 := hnb.cell 0
      have g1 := hnb.cell 1
      simp only [List.getElem?_cons_zero, List.getElem?_cons_succ] at g0 g1
      have LA := Lib.hid (fun (W : World) => little16 r.1 W (by omega))
      have LB := Lib.hid (fun (W : World) => little16 (r.2 - r.1) W (by omega))
      have Hcells := Lib.hid (show u8s (enc16 nr ++ (runNums (rs.take k)).flatMap enc16) ++ u8s (enc16 r.1) ++ u8s (enc16 (r.2 - r.1)) = u8s (enc16 nr ++ (runNums (rs.take (k + 1))).flatMap enc16) from by rw [Ht.out, ← u8s_append, ← u8s_append]; simp only [List.append_assoc])
      have hwz := Hma.out.size
      have hwz2 : w.heap.size ≤ (wr.alloc (.cells #[.int .i64 (r.1 : Int), .int .i64 (r.2 : Int)] 50)).drew.heap.size := hwz
      have hA : ∀ g5, (Value.slice A (2 + 4 * k) c).ownBlock = some g5 → w.heap.size ≤ g5 := fun g5 h => Hf.out g5 (by unfold blkOf; rw [h]; simp)
      have ws : IntKind.i64.wrap ((r.2 : Int) - (r.1 : Int)) = ((r.2 - r.1 : Nat) : Int) := by rw [IntWalk.i64_in _ (by omega)]; omega
      have hW : ∀ b ∈ blkOf (.slice A (2 + 4 * k) c), b < wr.heap.size := Ho.out.lt
      have hql := hnb.lt
      have hqd : wr.heap.size < (wr.alloc (.cells #[.int .i64 (r.1 : Int), .int .i64 (r.2 : Int)] 50)).drew.heap.size := hql
      have hW2 : ∀ g5, (Value.slice A (2 + 4 * k) c).ownBlock = some g5 → g5 < wr.heap.size := fun g5 h => hW g5 (by unfold blkOf; rw [h]; simp)
      generalize wr.heap.size = q at *
      go_region_held3 (fun w' => w'.cell? ⟨q, 0, none⟩ = some (.int .i64 (r.1 : Int)) ∧ w'.cell? ⟨q, 1, none⟩ = some (.int .i64 (r.2 : Int))) (first | assumption | exact ⟨g0, g1⟩ | go_keep) (first
        | (go_at_call 23; ((with_reducible refine (LA.out _).mono ?_); rintro ed wA ⟨gA, cA, rfl, oA, kA, fA⟩; have sA := kA.size; have hSA : wA.cell? ⟨q, 0, none⟩ = some (.int .i64 (r.1 : Int)) ∧ wA.cell? ⟨q, 1, none⟩ = some (.int .i64 (r.2 : Int)) := (by constructor <;> (refine kA.cell2 id ?_; first | exact And.left (by assumption) | exact And.right (by assumption)))))
        | (go_at_call 23; ((with_reducible refine (LB.out _).mono ?_); rintro ed wB ⟨gB, cB, rfl, oB, kB, fB⟩; have sB := kB.size; have hSB : wB.cell? ⟨q, 0, none⟩ = some (.int .i64 (r.1 : Int)) ∧ wB.cell? ⟨q, 1, none⟩ = some (.int .i64 (r.2 : Int)) := (by constructor <;> (refine kB.cell2 id ?_; first | exact And.left (by assumption) | exact And.right (by assumption)))))
        | (refine step_append_lies _ (by rfl) _ _ _ (by rfl) 0 5 iU (.int .u8 0) 1 1 undU8s u1 u2 u3 u4 rfl (by omega) (.slice A (2 + 4 * k) c) (2 + 4 * k) (u8s (enc16 nr ++ (runNums (rs.take k)).flatMap enc16)) (by rfl) (by first | exact ((Own_drew Hoa.out).kept kA (fun _ _ => id)).toRow | exact ((Own_drew Hoa.out).kept (kA.trans kB) (fun _ _ => id)).toRow | exact ((Own_drew Hoa.out).kept (kB.trans kA) (fun _ _ => id)).toRow) ⟨gA, 0, none⟩ 2 cA (u8s (enc16 r.1)) (by rfl) (by rfl) (by first | exact own_news oA | exact own_news (oA.kept kB (fun _ _ => id))) (u8s_each _) (by omega) (by unfold maxLen; omega) (by omega) (Nat.zero_le _) _ rfl ?_; intro g5 c5 w5 hown5 hgrow5 hat5 hlt5; have hg5 : g5 ≠ q := hat5.elim (fun h => by have := hW2 _ h; omega) (fun h => by omega); have k5 : Kept (fun b => b ∈ blkOf (.slice A (2 + 4 * k) c)) _ w5 := Kept.grown (Kept.refl _ _) hgrow5 (fun kk hkk _ => by unfold blkOf; rw [hkk]; simp); have hS5 : w5.cell? ⟨q, 0, none⟩ = some (.int .i64 (r.1 : Int)) ∧ w5.cell? ⟨q, 1, none⟩ = some (.int .i64 (r.2 : Int)) := (by constructor <;> (refine k5.cell2 (fun h => absurd (hW _ h) (Nat.lt_irrefl _)) ?_; first | exact And.left (by assumption) | exact And.right (by assumption))))
        | (refine step_append_lies _ (by rfl) _ _ _ (by rfl) 0 5 iU (.int .u8 0) 1 1 undU8s u1 u2 u3 u4 rfl (by omega) (.slice (some ⟨g5, 0, none⟩) (2 + 4 * k + 2) c5) (2 + 4 * k + 2) (u8s (enc16 nr ++ (runNums (rs.take k)).flatMap enc16) ++ u8s (enc16 r.1)) (by rfl) (by first | exact hown5 | exact ((Own.ofRow hown5).kept kB (fun _ _ => id)).toRow) ⟨gB, 0, none⟩ 2 cB (u8s (enc16 (r.2 - r.1))) (by rfl) (by rfl) (by first | exact own_news oB | exact own_news (oB.kept k5 (by intro b hb h; simp at hb; subst hb; have := hW _ h; omega)) | exact own_news ((oB.kept kA (fun _ _ => id)).kept k5 (by intro b hb h; simp at hb; subst hb; have := hW _ h; omega))) (u8s_each _) (by omega) (by unfold maxLen; omega) (by omega) (Nat.zero_le _) _ rfl ?_; intro g6 c6 w6 hown6 hgrow6 hat6 hlt6; have k6 : Kept (fun b => b = g5) _ w6 := Kept.grown (Kept.refl _ _) hgrow6 (fun kk hkk _ => by simp [Value.ownBlock] at hkk; exact hkk.symm); have hS6 : w6.cell? ⟨q, 0, none⟩ = some (.int .i64 (r.1 : Int)) ∧ w6.cell? ⟨q, 1, none⟩ = some (.int .i64 (r.2 : Int)) := (by constructor <;> (refine k6.cell2 (by show ¬ q = g5; omega) ?_; first | exact And.left (by assumption) | exact And.right (by assumption)))))
      all_goals
        have hg5w : w.heap.size ≤ g5 := hat5.elim (fun h => hA _ h) (fun h => by omega)
        have own6 := Own.ofRow hown6
        rw [Hcells.out, show 2 + 4 * k + 2 + 2 = 2 + 4 * (k + 1) by omega] at own6
        have m6 : Mild w w6 := by
          first
            | exact Kept.then ((Kept.then (Hma.out.drew.trans kA) k5 (fun b hb h => absurd (Hf.out b h) (by omega))).trans kB) k6 (fun b hb h => by omega)
            | exact Kept.then (Kept.then ((Hma.out.drew.trans kA).trans kB) k5 (fun b hb h => absurd (Hf.out b h) (by omega))) k6 (fun b hb h => by omega)
            | exact Kept.then (Kept.then ((Hma.out.drew.trans kB).trans kA) k5 (fun b hb h => absurd (Hf.out b h) (by omega))) k6 (fun b hb h => by omega)
        have s5 := k5.size
        have g6w : w.heap.size ≤ g6 := hat6.elim (fun h => by simp [Value.ownBlock] at h; omega) (fun h => by omega)
        have Ho6 := Lib.hid own6
        have Hm6 := Lib.hid m6
        go_wp2
        go_roundw
        case rel => exact ⟨k + 1, by go_num, by omega, Hm6, Ho6, Lib.hid (by intro b hb; simp at hb; omega)⟩
        case measure => simp only [intOf]; omega
    · obtain rfl : k = nr := by omega
      go_wp2
      go_ret
      have e : rs.take k = rs := by rw [← Hl.out, List.take_length]
      have ho := Ho.out
      rw [e] at ho
      have e2 : (bodyOf rs 2).length = 2 + 4 * k := by rw [Hbd.out]; have := ho.len; simp at this ⊢; omega
      exact ⟨_, rfl, by rw [e2, Hbd.out]; exact ho, Hm.out, Hf.out⟩
end Go.Proofs

namespace Go.Proofs
open Go.RowKit Go.Roar

theorem plain_any (u : Value) (rs : List (Nat × Nat)) (w : World) (hu : RV w u rs) (hb : ∀ r ∈ rs, r.1 ≤ r.2 ∧ r.2 < 4294967296) (hn : rs.length ≤ 1000000) :
    Calls Tryz.prog 10 #[u] w fun e w' => e = .returned (.int .i64 ((if rgCard rs ≤ 4096 then 0 else 1 : Nat) : Int)) ∧ Mild w w' := by
  have C := Lib.hid (count_any u rs w hu hb hn)
  clear hu hb hn
  by_cases h : rgCard rs ≤ 4096
  · rw [if_pos h]
    go_enter Tryz.func10, Tryz.ntmps10
    go_wp2_with (first | (go_at_call 22; refine C.out.mono ?_; rintro ed w2 ⟨rfl, k2⟩))
    go_ret
    exact ⟨rfl, k2⟩
  · rw [if_neg h]
    go_enter Tryz.func10, Tryz.ntmps10
    go_wp2_with (first | (go_at_call 22; refine C.out.mono ?_; rintro ed w2 ⟨rfl, k2⟩))
    go_ret
    exact ⟨rfl, k2⟩
end Go.Proofs
