/-
  arrayContainer.iremove, iremoveReturnMinimized: one number is taken out of an array of numbers.
  arrayContainer.iremoveRange: a range is taken out of an array of numbers.
-/
import Derived.Test.YtjjijipfhnoomaaGreatDoorJOrb
import Derived.Test.YtjjijipfhnoomaaGreatDoorJAoR
import Derived.Test.YtjjijipfhnoomaaGreatDoorJHeap
import Derived.Test.YtjjijipfhnoomaaGreatDoorKAc
import Derived.Deep.RegionHeld3
namespace Go.Proofs
open Go.RowKit Go.Roar
attribute [local go_sem ↓] Go.wp_at_zero Go.wp_at_succ

theorem u16s_cut (l : List Nat) (i : Nat) : (u16s l).take i ++ (u16s l).drop (i + 1) = u16s (l.take i ++ l.drop (i + 1)) := by
  simp [u16s, List.map_take, List.map_drop]
theorem u16s_src2 {w : World} {l : List Nat} {g n c k : Nat} (hn : l.length = n) (hc : n ≤ c) (h : Own w 1 57 (.slice (some ⟨g, 0, none⟩) n c) n (u16s l)) :
    ∀ (j : Nat) (u : Value), ((u16s l).drop k)[j]? = some u → w.cell? ((tlA g 0 k c 1).add j) = some u := by
  rcases Nat.lt_or_ge k n with hlt | hge
  · exact Own.src h k 1 (by omega) _ drop_src0
  · intro j u hj
    rw [List.drop_eq_nil_of_le (by simp [u16s]; omega)] at hj
    simp at hj

set_option maxRecDepth 100000 in
set_option maxHeartbeats 4000000 in
theorem acIrem_any (p : Nat) (v : Value) (l : List Nat) (x : Nat) (w : World) (hs : Rising l) (hb : ∀ y ∈ l, y < 65536) (hl : l.length ≤ 4096) (hx : x < 65536) (h : Parts w (AC p v l)) :
    Calls Tryz.prog 125 #[.pointer (some ⟨p, 0, none⟩), .int .u16 (x : Int)] w fun ed w' => ed = .returned (.bool (decide (x ∈ l))) ∧ ∃ v', SS w (foot (AC p v l)) w' (AC p v' (wo l x)) := by
  obtain ⟨iU, zu1, zu2, zu3, zu4⟩ := info_parts infoU16
  have ho : Own w 1 57 v l.length (u16s l) := h.all (O 1 57 v l.length (u16s l)) (by simp [AC])
  have S0 := SS.init h
  have HS0 := Lib.hid S0
  have C1 := bs_own v l x w hs hb (by omega) hx ho
  by_cases hm : x ∈ l
  · rw [decide_eq_true hm]
    have hpos := List.length_pos_of_mem hm
    obtain ⟨g, c, rfl, hc1, hc2⟩ := Own.shape ho hpos
    generalize foot (AC p (.slice (some ⟨g, 0, none⟩) l.length c) l) = F at *
    simp only [AC] at S0
    have c0 := S0.cell 0 rfl 0 rfl
    have f0 := S0.free 0 rfl 0
    have hat := (mem_lb hs).1 hm
    have hbs : bsOf l x = (lb l x : Int) := by unfold bsOf; rw [if_pos hat]
    rw [hbs] at C1
    have hil := (List.getElem?_eq_some_iff.1 hat).1
    have HW := Lib.hid (wo_at hs hat)
    have hwl := wo_length hs hm
    obtain ⟨i, hi⟩ : ∃ i, i = lb l x := ⟨_, rfl⟩
    rw [← hi] at hil C1 HW
    have C1 := Lib.hid C1
    obtain ⟨ys, -, -, hy3, S1⟩ := SS.reslice (L := [B p 106 [.slice (some ⟨g, 0, none⟩) l.length c]]) (R := []) (m := i) S0 (by omega)
    have HY := Lib.hid (hy3 (by omega))
    have HS1 := Lib.hid S1.drew
    have HO := Lib.hid (show Own w.drew 1 57 (.slice (some ⟨g, 0, none⟩) l.length c) l.length (u16s l) from S0.drew.get (A := O 1 57 (.slice (some ⟨g, 0, none⟩) l.length c) l.length (u16s l)) (by simp))
    generalize hn : l.length = n at *
    have Hn := Lib.hid hn
    have HWL := Lib.hid (show (wo l x).length = i + (n - (i + 1)) by omega)
    have q1 : IntKind.i64.wrap ((i : Int) + 1) = (i : Int) + 1 := IntWalk.i64_in _ (by omega)
    have i3 : (0 : Int) ≤ (i : Int) := by omega
    have s1 := fun (W : World) => run_slice_from (P := Tryz.prog) W undU16s szU16 g 0 n c (i + 1) .i64 ((i : Int) + 1) (by omega) (by omega)
    have s3 := fun (W : World) => run_slice_to (P := Tryz.prog) W undU16s szU16 (some ⟨g, 0, none⟩) n c i .i64 (i : Int) rfl (by omega)
    clear hn hi ho hm hat hbs h S0 S1 hy3 hwl hs hb
    go_enter Tryz.func125, Tryz.ntmps125
    go_wp2_with (first
      | (go_at_call 52; refine C1.out.mono ?_; rintro ed w' ⟨rfl, rfl⟩)
      | (at_builtin; refine wpList_append_ss rfl (.tmp 21) (.tmp 25) 59 rfl 57 iU (.int .u16 0) 1 2 undU16s zu1 zu2 zu3 zu4 rfl (by decide) w F [B p 106 [.slice (some ⟨g, 0, none⟩) n c]] [] (.slice (some ⟨g, 0, none⟩) i c) i ys rfl HS1.out (tlA g 0 (i + 1) c 1) (n - (i + 1)) (c - (i + 1)) ((u16s l).drop (i + 1)) rfl (by simp [u16s, Hn.out]) (u16s_src2 Hn.out hc1 HO.out) (fun v hv => u16s_one l v (List.mem_of_mem_drop hv)) (by unfold maxLen; omega) (by omega) ?_; intro v7 w7 S7; obtain ⟨G7, c7, rfl, _⟩ := Own.sliceOf (S7.get (A := O 1 57 v7 (i + (n - (i + 1))) (ys ++ (u16s l).drop (i + 1))) (by simp)); have r6 := S7.cell 0 rfl 0 rfl; have r7 := S7.free 0 rfl 0; have S8 := Lib.hid (SS.store (L := []) S7 0 (.slice G7 (i + (n - (i + 1))) c7)); clear S7)
      | (refine wp_region_tail 7 (by kernel_rfl) (by decide +kernel) ?_; simp only [List.take_succ_cons, List.take_zero, List.drop_succ_cons, List.drop_zero]; repeat still_step; try (refine wpStill_nil ?_; show wpList _ _ _ _ _ _))
      | fail)
    all_goals go_ret
    all_goals
      have S9 := S8.out
      rw [HY.out, Nat.mul_one, u16s_cut, ← HW.out] at S9
      have hL : ([B p 106 [.slice G7 (i + (n - (i + 1))) c7], O 1 57 (.slice G7 (i + (n - (i + 1))) c7) (i + (n - (i + 1))) (u16s (wo l x))] : List HA) = AC p (.slice G7 (i + (n - (i + 1))) c7) (wo l x) := by
        unfold AC
        rw [HWL.out]
      exact ⟨rfl, .slice G7 (i + (n - (i + 1))) c7, by rw [← hL]; exact S9⟩
  · rw [decide_eq_false hm]
    have hnot : l[lb l x]? ≠ some x := fun e => hm ((mem_lb hs).2 e)
    rw [bsOf_not hnot] at C1
    have HN := Lib.hid (wo_none hm)
    have hlb := lb_le l x
    obtain ⟨A, c, rfl, -⟩ := Own.sliceOf ho
    generalize foot (AC p (.slice A l.length c) l) = F at *
    simp only [AC] at S0
    have c0 := S0.cell 0 rfl 0 rfl
    generalize lb l x = i at *
    have C1 := Lib.hid C1
    have i3 : ¬ (0 : Int) ≤ - ((i : Int) + 1) := by omega
    clear hnot hm ho h S0 hs hb
    go_enter Tryz.func125, Tryz.ntmps125
    go_wp2_with (first
      | (go_at_call 52; refine C1.out.mono ?_; rintro ed w' ⟨rfl, rfl⟩)
      | fail)
    go_ret
    rw [HN.out]
    exact ⟨rfl, _, HS0.out⟩

set_option maxRecDepth 100000 in
set_option maxHeartbeats 1000000 in
theorem acRem_any (p : Nat) (v : Value) (l : List Nat) (x : Nat) (w : World) (hs : Rising l) (hb : ∀ y ∈ l, y < 65536) (hl : l.length ≤ 4096) (hx : x < 65536) (h : Parts w (AC p v l)) :
    Calls Tryz.prog 127 #[.pointer (some ⟨p, 0, none⟩), .int .u16 (x : Int)] w fun ed w' => RemPost l x (foot (AC p v l)) w ed w' := by
  have IR := Lib.hid (acIrem_any p v l x w hs hb hl hx h)
  have HW := Lib.hid (And.intro (wo_rising hs x) (wo_lt hb x))
  have HL := Lib.hid (Nat.le_trans (List.length_filter_le (fun y => decide (y ≠ x)) l) hl)
  unfold RemPost
  generalize foot (AC p v l) = F at *
  clear h hs hb
  generalize decide (x ∈ l) = b at *
  go_enter Tryz.func127, Tryz.ntmps127
  go_wp2_with (first
    | (go_at_call 125; (with_reducible refine IR.out.mono ?_); rintro ed w1 ⟨rfl, v', hS⟩; have S1 := Lib.hid hS; clear hS)
    | fail)
  go_ret
  refine ⟨_, _, _, rfl, ?_, S1.out⟩
  by_cases he : wo l x = []
  · exact .inr ⟨he, p, v', rfl, by rw [he]⟩
  · exact .inl ⟨0, KC.arr p v' _ HW.out.1 HW.out.2 he HL.out⟩
end Go.Proofs

namespace Go.Roar
open Go.RowKit Go.Proofs
/-- Where the two searches stand. -/
theorem cut_spots {l : List Nat} {s e : Nat} (hs : Rising l) (he : 0 < e) :
    (bsOf l s = (lb l s : Int) ∨ bsOf l s = - ((lb l s : Int) + 1)) ∧ ((∃ j : Nat, bsOf l (e - 1) = (j : Int) ∧ j + 1 = lb l e) ∨ bsOf l (e - 1) = - ((lb l e : Int) + 1)) := by
  refine ⟨?_, ?_⟩
  · unfold bsOf
    split
    · exact .inl rfl
    · exact .inr rfl
  · have h := lb_succ hs (e - 1)
    rw [show e - 1 + 1 = e by omega] at h
    unfold bsOf
    split
    · rename_i h1
      exact .inl ⟨_, rfl, (h.1 h1).symm⟩
    · rename_i h1
      rw [h.2 h1]
      exact .inr rfl
theorem lb_monoR {l : List Nat} {s e : Nat} (hs : Rising l) (hse : s ≤ e) : lb l s ≤ lb l e := by
  rcases Nat.lt_or_ge (lb l e) (lb l s) with h | h
  · have hl := lb_le l s
    obtain ⟨y, hy⟩ : ∃ y, l[lb l e]? = some y := ⟨_, List.getElem?_eq_getElem (by omega)⟩
    have h1 := lb_below hs s _ _ h hy
    have h2 := lb_above hs e _ _ (Nat.le_refl _) hy
    omega
  · exact h
theorem splice_take {α : Type} (l : List α) (i k : Nat) (hi : i ≤ l.length) : (splice l i (l.drop k)).take (i + (l.length - k)) = l.take i ++ l.drop k := by
  unfold splice
  rw [← List.append_assoc, List.take_append_of_le_length (by simp; omega), List.take_of_length_le (by simp; omega)]
end Go.Roar
namespace Go.Proofs
open Go.RowKit Go.Roar
attribute [local go_sem ↓] Go.wp_at_zero Go.wp_at_succ

theorem acCardE_any (q m c : Nat) (G : Option Addr) (w : World) (h : w.cell? ⟨q, 0, none⟩ = some (.slice G m c)) :
    Calls Tryz.prog 74 #[.pointer (some ⟨q, 0, none⟩)] w fun e w' => e = .returned (.int .i64 (m : Int)) ∧ w = w' := by
  go_enter Tryz.func74, Tryz.ntmps74
  go_wp2
  go_ret
  exact ⟨rfl, rfl⟩

set_option maxRecDepth 100000 in
set_option maxHeartbeats 8000000 in
theorem acRemR_any (p : Nat) (v : Value) (l : List Nat) (s e : Nat) (w : World) (hs : Rising l) (hb : ∀ y ∈ l, y < 65536) (h0 : l ≠ []) (hl : l.length ≤ 4096) (hse : s < e) (he : e ≤ 65536) (h : Parts w (AC p v l)) :
    Calls Tryz.prog 126 #[.pointer (some ⟨p, 0, none⟩), .int .i64 (s : Int), .int .i64 (e : Int)] w fun ed w' => GiveR (cutS l s e) (foot (AC p v l)) w ed w' := by
  have ho : Own w 1 57 v l.length (u16s l) := h.all (O 1 57 v l.length (u16s l)) (by simp [AC])
  have S0 := SS.init h
  have C1 := bs_own v l s w hs hb (by omega) (by omega) ho
  have C2 := bs_own v l (e - 1) w hs hb (by omega) (by omega) ho
  obtain ⟨g, c, rfl, hc1, hc2⟩ := Own.shape ho (List.length_pos_iff.2 h0)
  have HG := Lib.hid (show ∀ (v' : Value) (W : World), SS w (foot (AC p (.slice (some ⟨g, 0, none⟩) l.length c) l)) W (AC p v' (cutS l s e)) → GiveR (cutS l s e) (foot (AC p (.slice (some ⟨g, 0, none⟩) l.length c) l)) w (.returned (.iface 82 (.pointer (some ⟨p, 0, none⟩)))) W from fun v' W hS => by
    refine ⟨_, _, _, rfl, .inl ?_, hS⟩
    by_cases he : cutS l s e = []
    · exact .inr ⟨he, p, v', rfl, by rw [he]⟩
    · exact .inl ⟨0, KC.arr p v' _ (cutS_rising hs s e) (cutS_lt hb s e) he (Nat.le_trans (cutS_length l s e) hl)⟩)
  have HC := Lib.hid (cutS_lb hs (Nat.le_of_lt hse))
  obtain ⟨b1, b2⟩ := cut_spots (s := s) (e := e) hs (by omega)
  have hik := lb_monoR hs (Nat.le_of_lt hse)
  have hkn := lb_le l e
  generalize foot (AC p (.slice (some ⟨g, 0, none⟩) l.length c) l) = F at *
  generalize cutS l s e = l' at *
  simp only [AC] at S0
  have c0 := S0.cell 0 rfl 0 rfl
  have S1 := S0.drew
  have HS1 := Lib.hid S1
  have HO := Lib.hid (show Own w.drew 1 57 (.slice (some ⟨g, 0, none⟩) l.length c) l.length (u16s l) from S1.get (A := O 1 57 (.slice (some ⟨g, 0, none⟩) l.length c) l.length (u16s l)) (by simp))
  generalize lb l s = i at *
  generalize lb l e = k at *
  generalize bsOf l s = J1 at *
  generalize bsOf l (e - 1) = J2 at *
  generalize hn : l.length = n at *
  have Hn := Lib.hid hn
  obtain ⟨D, hD⟩ : ∃ D, D = k - i := ⟨_, rfl⟩
  obtain ⟨m, hm⟩ : ∃ m, m = n - D := ⟨_, rfl⟩
  have q3 : IntKind.i64.wrap ((k : Int) - (i : Int)) = (D : Int) := (IntWalk.i64_in _ (by omega)).trans (by omega)
  have q4 : IntKind.i64.wrap ((i : Int) + (D : Int)) = (k : Int) := (IntWalk.i64_in _ (by omega)).trans (by omega)
  have q5 : IntKind.i64.wrap ((n : Int) - (D : Int)) = (m : Int) := (IntWalk.i64_in _ (by omega)).trans (by omega)
  have hmn : m ≤ n := by omega
  have hmk : m = i + (n - k) := by omega
  have HM := Lib.hid hmk
  have w1 : IntKind.u16.wrap (s : Int) = (s : Int) := IntWalk.u16_in _ (by omega)
  have w2 : IntKind.u16.wrap ((e : Int) - 1) = ((e - 1 : Nat) : Int) := (IntWalk.u16_in _ (by omega)).trans (by omega)
  have i1 : ¬ (e : Int) ≤ (s : Int) := by omega
  have s1 := fun (W : World) => run_slice_from (P := Tryz.prog) W undU16s szU16 g 0 n c i .i64 (i : Int) rfl (by omega)
  have s2 := fun (W : World) => run_slice_from (P := Tryz.prog) W undU16s szU16 g 0 n c k .i64 (k : Int) rfl (by omega)
  have s3 := fun (W : World) => run_slice_to (P := Tryz.prog) W undU16s szU16 (some ⟨g, 0, none⟩) n c m .i64 (m : Int) rfl (by omega)
  generalize e - 1 = e' at *
  have C1 := Lib.hid C1
  have C2 := Lib.hid C2
  clear hn hD hm hmk ho h S0 S1 hs hb h0
  rcases b1 with rfl | rfl
  · have j1 : ¬ (i : Int) < 0 := by omega
    rcases b2 with ⟨j, rfl, hj⟩ | rfl
    · have j2 : ¬ (j : Int) < 0 := by omega
      have j3 : IntKind.i64.wrap ((j : Int) + 1) = (k : Int) := (IntWalk.i64_in _ (by omega)).trans (by omega)
      clear hj
      go_enter Tryz.func126, Tryz.ntmps126
      go_upto_region 12 with (first
        | (go_at_call 52; (with_reducible refine C1.out.mono ?_); rintro ed w' ⟨rfl, rfl⟩)
        | (go_at_call 52; (with_reducible refine C2.out.mono ?_); rintro ed w' ⟨rfl, rfl⟩)
        | fail)
      go_upto_region 13 with (first
        | (refine wpList_copy_ss rfl (.tmp 52) (.tmp 60) 59 59 rfl 57 1 undU16s szU16 w F [B p 106 [.slice (some ⟨g, 0, none⟩) n c]] [] g n c (u16s l) HS1.out (some (tlA g 0 i c 1)) (some (tlA g 0 k c 1)) (n - i) (c - i) (n - k) (c - k) ?_ ?_ i (n - k) ((u16s l).drop k) ?_ ?_ ?_ ?_ ?_ ?_; rfl; rfl; exact (Nat.min_eq_left (by omega)).symm; (simp [u16s, Hn.out]); exact (fun h0 => ⟨tl_some1 (by omega), _, rfl, u16s_src2 Hn.out hc1 HO.out⟩); (simp [u16s, Hn.out]; omega); exact (fun v hv => u16s_one l v (List.mem_of_mem_drop hv)); intro w2 S2; have HS2 := Lib.hid S2; clear S2)
        | (refine wp_region_tail 14 (by kernel_rfl) (by decide +kernel) ?_; simp only [List.take_succ_cons, List.take_zero, List.drop_succ_cons, List.drop_zero]; repeat still_step; try (refine wpStill_nil ?_; show wpList _ _ _ _ _ _))
        | fail)
      have S3 := HS2.out.drew
      have c3 := S3.cell 0 rfl 0 rfl
      have f3 := S3.free 0 rfl 0
      have CC := Lib.hid (acCardE_any p n c (some ⟨g, 0, none⟩) w2.drew c3)
      have S4 := Lib.hid (SS.store (L := []) S3 0 (.slice (some ⟨g, 0, none⟩) m c))
      clear S3
      go_region_with (first
        | (go_at_call 74; (with_reducible refine CC.out.mono ?_); rintro ed w' ⟨rfl, rfl⟩)
        | fail)
      all_goals
        go_wp2
        go_ret
        obtain ⟨ys, -, -, hy, S5⟩ := SS.reslice (L := [B p 106 [.slice (some ⟨g, 0, none⟩) m c]]) (R := []) (m := m) S4.out (by omega)
        have e5 : ys = u16s l' := by
          have h1 := splice_take (u16s l) i k (by simp [u16s, Hn.out]; omega)
          rw [show (u16s l).length = n by simp [u16s, Hn.out], ← HM.out] at h1
          rw [hy hmn, Nat.mul_one, HC.out, h1]
          simp [u16s, List.map_take, List.map_drop]
        have e6 : l'.length = m := by
          rw [HC.out, List.length_append, List.length_take, List.length_drop, Hn.out, HM.out]
          omega
        refine HG.out (.slice (some ⟨g, 0, none⟩) m c) _ ?_
        unfold AC
        rw [e6, ← e5]
        exact S5
    · have j2 : - ((k : Int) + 1) < 0 := by omega
      go_enter Tryz.func126, Tryz.ntmps126
      go_upto_region 12 with (first
        | (go_at_call 52; (with_reducible refine C1.out.mono ?_); rintro ed w' ⟨rfl, rfl⟩)
        | (go_at_call 52; (with_reducible refine C2.out.mono ?_); rintro ed w' ⟨rfl, rfl⟩)
        | fail)
      go_upto_region 13 with (first
        | (refine wpList_copy_ss rfl (.tmp 52) (.tmp 60) 59 59 rfl 57 1 undU16s szU16 w F [B p 106 [.slice (some ⟨g, 0, none⟩) n c]] [] g n c (u16s l) HS1.out (some (tlA g 0 i c 1)) (some (tlA g 0 k c 1)) (n - i) (c - i) (n - k) (c - k) ?_ ?_ i (n - k) ((u16s l).drop k) ?_ ?_ ?_ ?_ ?_ ?_; rfl; rfl; exact (Nat.min_eq_left (by omega)).symm; (simp [u16s, Hn.out]); exact (fun h0 => ⟨tl_some1 (by omega), _, rfl, u16s_src2 Hn.out hc1 HO.out⟩); (simp [u16s, Hn.out]; omega); exact (fun v hv => u16s_one l v (List.mem_of_mem_drop hv)); intro w2 S2; have HS2 := Lib.hid S2; clear S2)
        | (refine wp_region_tail 14 (by kernel_rfl) (by decide +kernel) ?_; simp only [List.take_succ_cons, List.take_zero, List.drop_succ_cons, List.drop_zero]; repeat still_step; try (refine wpStill_nil ?_; show wpList _ _ _ _ _ _))
        | fail)
      have S3 := HS2.out.drew
      have c3 := S3.cell 0 rfl 0 rfl
      have f3 := S3.free 0 rfl 0
      have CC := Lib.hid (acCardE_any p n c (some ⟨g, 0, none⟩) w2.drew c3)
      have S4 := Lib.hid (SS.store (L := []) S3 0 (.slice (some ⟨g, 0, none⟩) m c))
      clear S3
      go_region_with (first
        | (go_at_call 74; (with_reducible refine CC.out.mono ?_); rintro ed w' ⟨rfl, rfl⟩)
        | fail)
      all_goals
        go_wp2
        go_ret
        obtain ⟨ys, -, -, hy, S5⟩ := SS.reslice (L := [B p 106 [.slice (some ⟨g, 0, none⟩) m c]]) (R := []) (m := m) S4.out (by omega)
        have e5 : ys = u16s l' := by
          have h1 := splice_take (u16s l) i k (by simp [u16s, Hn.out]; omega)
          rw [show (u16s l).length = n by simp [u16s, Hn.out], ← HM.out] at h1
          rw [hy hmn, Nat.mul_one, HC.out, h1]
          simp [u16s, List.map_take, List.map_drop]
        have e6 : l'.length = m := by
          rw [HC.out, List.length_append, List.length_take, List.length_drop, Hn.out, HM.out]
          omega
        refine HG.out (.slice (some ⟨g, 0, none⟩) m c) _ ?_
        unfold AC
        rw [e6, ← e5]
        exact S5
  · have j1 : - ((i : Int) + 1) < 0 := by omega
    rcases b2 with ⟨j, rfl, hj⟩ | rfl
    · have j2 : ¬ (j : Int) < 0 := by omega
      have j3 : IntKind.i64.wrap ((j : Int) + 1) = (k : Int) := (IntWalk.i64_in _ (by omega)).trans (by omega)
      clear hj
      go_enter Tryz.func126, Tryz.ntmps126
      go_upto_region 12 with (first
        | (go_at_call 52; (with_reducible refine C1.out.mono ?_); rintro ed w' ⟨rfl, rfl⟩)
        | (go_at_call 52; (with_reducible refine C2.out.mono ?_); rintro ed w' ⟨rfl, rfl⟩)
        | fail)
      go_upto_region 13 with (first
        | (refine wpList_copy_ss rfl (.tmp 52) (.tmp 60) 59 59 rfl 57 1 undU16s szU16 w F [B p 106 [.slice (some ⟨g, 0, none⟩) n c]] [] g n c (u16s l) HS1.out (some (tlA g 0 i c 1)) (some (tlA g 0 k c 1)) (n - i) (c - i) (n - k) (c - k) ?_ ?_ i (n - k) ((u16s l).drop k) ?_ ?_ ?_ ?_ ?_ ?_; rfl; rfl; exact (Nat.min_eq_left (by omega)).symm; (simp [u16s, Hn.out]); exact (fun h0 => ⟨tl_some1 (by omega), _, rfl, u16s_src2 Hn.out hc1 HO.out⟩); (simp [u16s, Hn.out]; omega); exact (fun v hv => u16s_one l v (List.mem_of_mem_drop hv)); intro w2 S2; have HS2 := Lib.hid S2; clear S2)
        | (refine wp_region_tail 14 (by kernel_rfl) (by decide +kernel) ?_; simp only [List.take_succ_cons, List.take_zero, List.drop_succ_cons, List.drop_zero]; repeat still_step; try (refine wpStill_nil ?_; show wpList _ _ _ _ _ _))
        | fail)
      have S3 := HS2.out.drew
      have c3 := S3.cell 0 rfl 0 rfl
      have f3 := S3.free 0 rfl 0
      have CC := Lib.hid (acCardE_any p n c (some ⟨g, 0, none⟩) w2.drew c3)
      have S4 := Lib.hid (SS.store (L := []) S3 0 (.slice (some ⟨g, 0, none⟩) m c))
      clear S3
      go_region_with (first
        | (go_at_call 74; (with_reducible refine CC.out.mono ?_); rintro ed w' ⟨rfl, rfl⟩)
        | fail)
      all_goals
        go_wp2
        go_ret
        obtain ⟨ys, -, -, hy, S5⟩ := SS.reslice (L := [B p 106 [.slice (some ⟨g, 0, none⟩) m c]]) (R := []) (m := m) S4.out (by omega)
        have e5 : ys = u16s l' := by
          have h1 := splice_take (u16s l) i k (by simp [u16s, Hn.out]; omega)
          rw [show (u16s l).length = n by simp [u16s, Hn.out], ← HM.out] at h1
          rw [hy hmn, Nat.mul_one, HC.out, h1]
          simp [u16s, List.map_take, List.map_drop]
        have e6 : l'.length = m := by
          rw [HC.out, List.length_append, List.length_take, List.length_drop, Hn.out, HM.out]
          omega
        refine HG.out (.slice (some ⟨g, 0, none⟩) m c) _ ?_
        unfold AC
        rw [e6, ← e5]
        exact S5
    · have j2 : - ((k : Int) + 1) < 0 := by omega
      go_enter Tryz.func126, Tryz.ntmps126
      go_upto_region 12 with (first
        | (go_at_call 52; (with_reducible refine C1.out.mono ?_); rintro ed w' ⟨rfl, rfl⟩)
        | (go_at_call 52; (with_reducible refine C2.out.mono ?_); rintro ed w' ⟨rfl, rfl⟩)
        | fail)
      go_upto_region 13 with (first
        | (refine wpList_copy_ss rfl (.tmp 52) (.tmp 60) 59 59 rfl 57 1 undU16s szU16 w F [B p 106 [.slice (some ⟨g, 0, none⟩) n c]] [] g n c (u16s l) HS1.out (some (tlA g 0 i c 1)) (some (tlA g 0 k c 1)) (n - i) (c - i) (n - k) (c - k) ?_ ?_ i (n - k) ((u16s l).drop k) ?_ ?_ ?_ ?_ ?_ ?_; rfl; rfl; exact (Nat.min_eq_left (by omega)).symm; (simp [u16s, Hn.out]); exact (fun h0 => ⟨tl_some1 (by omega), _, rfl, u16s_src2 Hn.out hc1 HO.out⟩); (simp [u16s, Hn.out]; omega); exact (fun v hv => u16s_one l v (List.mem_of_mem_drop hv)); intro w2 S2; have HS2 := Lib.hid S2; clear S2)
        | (refine wp_region_tail 14 (by kernel_rfl) (by decide +kernel) ?_; simp only [List.take_succ_cons, List.take_zero, List.drop_succ_cons, List.drop_zero]; repeat still_step; try (refine wpStill_nil ?_; show wpList _ _ _ _ _ _))
        | fail)
      have S3 := HS2.out.drew
      have c3 := S3.cell 0 rfl 0 rfl
      have f3 := S3.free 0 rfl 0
      have CC := Lib.hid (acCardE_any p n c (some ⟨g, 0, none⟩) w2.drew c3)
      have S4 := Lib.hid (SS.store (L := []) S3 0 (.slice (some ⟨g, 0, none⟩) m c))
      clear S3
      go_region_with (first
        | (go_at_call 74; (with_reducible refine CC.out.mono ?_); rintro ed w' ⟨rfl, rfl⟩)
        | fail)
      all_goals
        go_wp2
        go_ret
        obtain ⟨ys, -, -, hy, S5⟩ := SS.reslice (L := [B p 106 [.slice (some ⟨g, 0, none⟩) m c]]) (R := []) (m := m) S4.out (by omega)
        have e5 : ys = u16s l' := by
          have h1 := splice_take (u16s l) i k (by simp [u16s, Hn.out]; omega)
          rw [show (u16s l).length = n by simp [u16s, Hn.out], ← HM.out] at h1
          rw [hy hmn, Nat.mul_one, HC.out, h1]
          simp [u16s, List.map_take, List.map_drop]
        have e6 : l'.length = m := by
          rw [HC.out, List.length_append, List.length_take, List.length_drop, Hn.out, HM.out]
          omega
        refine HG.out (.slice (some ⟨g, 0, none⟩) m c) _ ?_
        unfold AC
        rw [e6, ← e5]
        exact S5
end Go.Proofs
