/-
  arrayContainer.iaddRange onto an array container that has nothing yet; and in one word.
  Plain laws on lists of runs.
  Intervals: the small functions on them.
  The laws of this claim's lists of operations, as steps of a region that draws its order.
-/
import Derived.Test.YtjjijipfhnoomaaGreatDoorKAc
import Derived.Deep.RegionHeld3
import Derived.Deep.DrawnRows
import Derived.Deep.RegionLaw
namespace Go.Proofs
open Go.RowKit Go.Roar

theorem addR_nil (s e : Nat) : addR [] s e = List.range' s (e - s) := by simp [addR]

set_option maxRecDepth 100000 in
set_option maxHeartbeats 8000000 in
theorem acAddRange_nil (p : Nat) (s e : Nat) (w : World) (hse : s < e) (he : e ≤ 65536) (hcard : e - s ≤ 4096)
    (h : Parts w (AC p (.slice none 0 0) [])) :
    Calls Tryz.prog 67 #[.pointer (some ⟨p, 0, none⟩), .int .i64 s, .int .i64 e] w fun ed w' => ed = .returned (.iface 82 (.pointer (some ⟨p, 0, none⟩))) ∧
      ∃ v', SS w (foot (AC p (.slice none 0 0) [])) w' (AC p v' (addR [] s e)) := by
  have S0 := SS.init h
  generalize hF : foot (AC p (.slice none 0 0) []) = F at *
  clear hF h
  unfold AC at S0
  have k0 := S0.at0
  have ho : Own w 1 57 (.slice none 0 0) 0 (u16s []) := S0.get (A := O 1 57 (.slice none 0 0) 0 (u16s [])) (by simp)
  have hb : ∀ x, bsOf [] x = -1 := fun x => by simp [bsOf, lb]
  have C1 : ∀ x : Int, 0 ≤ x → x < 65536 → Calls Tryz.prog 52 #[.slice none 0 0, .int .u16 x] w fun e w' => e = .returned (.int .i64 (-1)) ∧ w = w' := by
    intro x h0 h1
    obtain ⟨y, rfl⟩ := Int.eq_ofNat_of_zero_le h0
    have := bs_own _ [] y w List.Pairwise.nil (by simp) (by simp) (by omega) ho
    rw [hb] at this; exact this
  have C1 := Lib.hid C1
  have C3 := Lib.hid (acLen_any p _ [] w k0 ho)
  clear ho hb
  obtain ⟨iU, u1, u2, u3, u4⟩ := info_parts infoU16
  have q1 : IntKind.i64.wrap ((e : Int) - s) = (e : Int) - s := IntWalk.i64_in _ (by omega)
  have hzl : ((madeCells (Value.int IntKind.u16 (0 : Int)).cells ((e - s) * 1)).toList).length = e - s := by simp [size_madeCells]
  generalize hZ : (madeCells (Value.int IntKind.u16 (0 : Int)).cells ((e - s) * 1)).toList = zs at *
  have HzL := Lib.hid hzl
  clear hzl
  go_enter Tryz.func67, Tryz.ntmps67
  go_wp2_with (first
    | (go_at_call 52; refine (C1.out _ (by omega) (by omega)).mono ?_; rintro ed w' ⟨rfl, rfl⟩)
    | (go_at_call 74; refine C3.out.mono ?_; rintro ed w' ⟨rfl, rfl⟩)
    | (at_make; refine wpList_make_ss rfl (.tmp 72) (.tmp 73) 59 rfl 57 iU (.int .u16 0) 1 undU16s u1 u2 u3 w F [B p 106 [.slice none 0 0], O 1 57 (.slice none 0 0) 0 (u16s [])] S0 .i64 .i64 _ _ (e - s) rfl rfl (by omega) (by omega) (by rw [u4]; omega) (by unfold maxLen; omega) ?_; rw [hZ]; intro g2 w2 S2; have f0 := S2.swap.at0; have f0f := fun o => S2.swap.free0 o; have s1 := fun (W : World) => run_slice_to (P := Tryz.prog) W undU16s szU16 (some ⟨g2, 0, none⟩) (e - s) (e - s) 0 .i64 0 rfl (by omega); have s2 := fun (W : World) => run_slice_from (P := Tryz.prog) W undU16s szU16 g2 0 (e - s) (e - s) (e - s) .i64 ((e : Int) - s) (by omega) (by omega))
    | (refine wpList_copy_ss rfl (.tmp 77) (.tmp 83) 59 59 rfl 57 1 undU16s szU16 w F [] [B p 106 [.slice none 0 0], O 1 57 (.slice none 0 0) 0 (u16s [])] g2 (e - s) (e - s) zs S2.drew (some ⟨g2, 0, none⟩) none 0 (e - s) 0 0 ?_ ?_ 0 0 [] ?_ ?_ ?_ ?_ ?_ ?_; rfl; rfl; simp; simp; exact (fun h0 => absurd h0 (by omega)); simp; simp; intro w3 S3; have f1 := S3.swap.at0; clear f0 f0f)
    | (refine wpList_copy_ss rfl (.tmp 89) (.tmp 95) 59 59 rfl 57 1 undU16s szU16 w F [] [B p 106 [.slice none 0 0], O 1 57 (.slice none 0 0) 0 (u16s [])] g2 (e - s) (e - s) (splice zs 0 []) S3.drew (some (tlA g2 0 (e - s) (e - s) 1)) none 0 0 0 0 ?_ ?_ 0 0 [] ?_ ?_ ?_ ?_ ?_ ?_; rfl; rfl; simp; simp; exact (fun h0 => absurd h0 (by omega)); simp; simp; intro w4 S4; have f2 := S4.swap.at0; have f2f := fun o => S4.swap.free0 o; have S5 := SS.store (L := [O 1 57 (.slice (some ⟨g2, 0, none⟩) (e - s) (e - s)) (e - s) (splice (splice zs 0 []) 0 [])]) S4 0 (.slice (some ⟨g2, 0, none⟩) (e - s) (e - s)))
    | (refine wp_region_tail 9 (by kernel_rfl) (by decide +kernel) ?_; simp only [List.take_succ_cons, List.take_zero, List.drop_succ_cons, List.drop_zero]; repeat still_step; try (refine wpStill_nil ?_; show wpList _ _ _ _ _ _))
    | (refine wp_region_tail 11 (by kernel_rfl) (by decide +kernel) ?_; simp only [List.take_succ_cons, List.take_zero, List.drop_succ_cons, List.drop_zero]; repeat still_step; try (refine wpStill_nil ?_; show wpList _ _ _ _ _ _)))
  have S6 : SS w F (w4.setCell ⟨p, 0, none⟩ (.slice (some ⟨g2, 0, none⟩) (e - s) (e - s))) [B p 106 [.slice (some ⟨g2, 0, none⟩) (e - s) (e - s)], O 1 57 (.slice (some ⟨g2, 0, none⟩) (e - s) (e - s)) (e - s) (splice (splice zs 0 []) 0 [])] := S5.swap.left (L := [_, _])
  clear S5 S4 S3 S2 S0 f1 f2 f2f
  generalize hxs : splice (splice zs 0 []) 0 [] = xs at *
  clear hxs
  have hxl : xs.length = e - s := by simpa using (S6.get (A := O 1 57 (.slice (some ⟨g2, 0, none⟩) (e - s) (e - s)) (e - s) xs) (by simp)).1
  have Hxl := Lib.hid hxl
  clear hxl
  go_loopw [13] (fun k wr => ∃ q : Nat, k = .int .i64 q ∧ q ≤ e - s ∧ SS w F wr [B p 106 [.slice (some ⟨g2, 0, none⟩) (e - s) (e - s)], O 1 57 (.slice (some ⟨g2, 0, none⟩) (e - s) (e - s)) (e - s) (laid xs 0 s q)]) (fun k _ => e - s - (intOf k).toNat)
  case atStart => exact ⟨0, rfl, Nat.zero_le _, by rw [laid_zero]; exact S6⟩
  case round =>
    obtain ⟨q, rfl, hq, Sq⟩ := hrel
    have f0 := Sq.at0
    clear S6
    by_cases hlt : q < e - s
    · have hll : (laid xs 0 s q).length = e - s := by rw [laid_length _ _ _ _ (by rw [Hxl.out]; omega), Hxl.out]
      obtain ⟨x, hx⟩ : ∃ x, (laid xs 0 s q)[q]? = some x := ⟨_, List.getElem?_eq_getElem (by rw [hll]; omega)⟩
      have ca := Own.cellAt (Sq.get (A := O 1 57 (.slice (some ⟨g2, 0, none⟩) (e - s) (e - s)) (e - s) (laid xs 0 s q)) (by simp)) hx
      have St := SS.storeO (L := [B p 106 [.slice (some ⟨g2, 0, none⟩) (e - s) (e - s)]]) (R := []) Sq q (by rw [hll]; omega) (.int .u16 ((s + q : Nat) : Int))
      rw [show (laid xs 0 s q).set q (.int .u16 ((s + q : Nat) : Int)) = (laid xs 0 s q).set (0 + q) (.int .u16 ((s + q : Nat) : Int)) by rw [Nat.zero_add], laid_set _ _ _ _ (by rw [Hxl.out]; omega)] at St
      clear hx hll
      go_wp2
      go_roundw
      case rel => exact ⟨q + 1, by go_num, by omega, by simpa using St⟩
      case measure => simp only [intOf]; omega
    · obtain rfl : q = e - s := by omega
      go_wp2
      go_ret
      refine ⟨rfl, .slice (some ⟨g2, 0, none⟩) (e - s) (e - s), ?_⟩
      have e3 : (addR [] s e).length = e - s := by simp [addR]
      have hl0 : ∀ y, lb [] y = 0 := fun _ => by simp [lb]
      have := laid_addR [] s e xs (by rw [hl0]; simp) (by rw [hl0, hl0, Nat.zero_add, List.drop_eq_nil_of_le (by rw [Hxl.out]; omega)]; simp [u16s])
      rw [hl0] at this
      rw [this] at Sq
      unfold AC
      rw [e3]
      exact Sq

/-- arrayContainer.iaddRange on any content. -/
theorem acAddRange_any (p : Nat) (v : Value) (l : List Nat) (s e : Nat) (w : World) (hs : Rising l) (hb : ∀ y ∈ l, y < 65536) (hl : l.length ≤ 4096) (hse : s < e) (he : e ≤ 65536) (hcard : lb l s + (l.length - lb l e) + (e - s) ≤ 4096)
    (h : Parts w (AC p v l)) :
    Calls Tryz.prog 67 #[.pointer (some ⟨p, 0, none⟩), .int .i64 s, .int .i64 e] w fun ed w' => ed = .returned (.iface 82 (.pointer (some ⟨p, 0, none⟩))) ∧
      ∃ v', SS w (foot (AC p v l)) w' (AC p v' (addR l s e)) := by
  have ho : Own w 1 57 v l.length (u16s l) := h.all (O 1 57 v l.length (u16s l)) (by simp [AC])
  rcases ho.2 with ⟨rfl, h0⟩ | ⟨g, k, r, rfl, hr, hm, hbk⟩
  · have : l = [] := List.length_eq_zero_iff.1 h0
    subst this
    exact acAddRange_nil p s e w hse he (by simpa [lb] using hcard) h
  · exact acAddRange_blk p g _ l s e w hs hb hl hse he hcard h
end Go.Proofs

namespace Go.Roar
open Go.RowKit

theorem ivs_cons (x : Nat × Nat) (l : List (Nat × Nat)) : ivs (x :: l) = .int .u16 ((x.1 : Nat) : Int) :: .int .u16 ((x.2 - x.1 : Nat) : Int) :: ivs l := by simp [ivs]

theorem RunsOK.take {l : List (Nat × Nat)} (h : RunsOK l) (k : Nat) : RunsOK (l.take k) :=
  ⟨fun x hx => h.1 x (List.mem_of_mem_take hx), h.2.sublist (List.take_sublist _ _)⟩
theorem RunsOK.drop {l : List (Nat × Nat)} (h : RunsOK l) (k : Nat) : RunsOK (l.drop k) :=
  ⟨fun x hx => h.1 x (List.mem_of_mem_drop hx), h.2.sublist (List.drop_sublist _ _)⟩

theorem rcard_lo : ∀ (rs : List (Nat × Nat)) (lo : Nat), RunsOK rs → (∀ r ∈ rs, lo ≤ r.1) → lo ≤ 65536 → rgCard rs + lo ≤ 65536
  | [], lo, _, _, hl => by simpa [rgCard] using hl
  | r :: l, lo, h, hlo, hl => by
    have h1 := h.1 r (by simp)
    have h2 := hlo r (by simp)
    have := rcard_lo l (r.2 + 1) h.tail (fun x hx => by have := (List.pairwise_cons.1 h.2).1 x hx; omega) (by omega)
    rw [rgCard_cons]; omega
theorem rcard_le {rs : List (Nat × Nat)} (h : RunsOK rs) : rgCard rs ≤ 65536 := by simpa using rcard_lo rs 0 h (by simp) (by simp)

theorem rcard_take_succ {rs : List (Nat × Nat)} {k : Nat} {r : Nat × Nat} (h : rs[k]? = some r) : rgCard (rs.take (k + 1)) = rgCard (rs.take k) + (r.2 - r.1 + 1) := by
  unfold rgCard
  rw [List.take_add_one, h]
  simp
theorem rcard_le2 {rs : List (Nat × Nat)} {n k : Nat} (h : rgCard rs ≤ n) : rgCard (rs.take k) ≤ n := by
  have := congrArg rgCard (List.take_append_drop k rs)
  unfold rgCard at *
  simp only [List.map_append, List.sum_append] at this
  omega
theorem nums_take_succ {rs : List (Nat × Nat)} {k : Nat} {r : Nat × Nat} (h : rs[k]? = some r) : rgNums (rs.take (k + 1)) = rgNums (rs.take k) ++ List.range' r.1 (r.2 - r.1 + 1) := by
  rw [List.take_add_one, h, rgNums_append]
  simp [rgNums]
theorem ivs_at {rs : List (Nat × Nat)} {k : Nat} {r : Nat × Nat} (h : rs[k]? = some r) : (ivs rs)[k * 2]? = some (.int .u16 (r.1 : Int)) ∧ (ivs rs)[k * 2 + 1]? = some (.int .u16 ((r.2 - r.1 : Nat) : Int)) := by
  induction rs generalizing k with
  | nil => simp at h
  | cons x l ih =>
    cases k with
    | zero => simp at h; subst h; simp [ivs]
    | succ k =>
      have := ih (k := k) (by simpa using h)
      rw [ivs_cons, show (k + 1) * 2 = k * 2 + 1 + 1 by omega]
      simpa using this

theorem rising_append {a b : List Nat} (ha : Rising a) (hb : Rising b) (h : ∀ x ∈ a, ∀ y ∈ b, x < y) : Rising (a ++ b) := List.pairwise_append.2 ⟨ha, hb, h⟩
theorem rising_range (s n : Nat) : Rising (List.range' s n) := List.pairwise_lt_range'

/-- The numbers of the first runs are below the run behind them. -/
theorem nums_below {rs : List (Nat × Nat)} (h : RunsOK rs) {k : Nat} {r : Nat × Nat} (hr : rs[k]? = some r) : ∀ x ∈ rgNums (rs.take k), x + 1 < r.1 := by
  intro x hx
  obtain ⟨q, hq, h1, h2⟩ := (rgNums_mem (fun q hq => (h.1 q (List.mem_of_mem_take hq)).1) x).1 hx
  obtain ⟨j, hj⟩ := List.getElem?_of_mem hq
  have hjk : j < k := by have := (List.getElem?_eq_some_iff.1 hj).1; simp at this; omega
  rw [List.getElem?_take_of_lt hjk] at hj
  obtain ⟨hi1, e1⟩ := List.getElem?_eq_some_iff.1 hj
  obtain ⟨hi2, e2⟩ := List.getElem?_eq_some_iff.1 hr
  have := List.pairwise_iff_getElem.1 h.2 j k hi1 hi2 hjk
  rw [e1, e2] at this
  omega

theorem addR_above {l : List Nat} {s e : Nat} (h : ∀ x ∈ l, x < s) (hse : s ≤ e) : Go.Proofs.addR l s e = l ++ List.range' s (e - s) := by
  have h1 : lb l s = l.length := by unfold lb; rw [List.countP_eq_length]; simpa using h
  have h2 : lb l e = l.length := by unfold lb; rw [List.countP_eq_length]; intro x hx; have := h x hx; simp; omega
  simp [Go.Proofs.addR, h1, h2]
theorem lb_all {l : List Nat} {s : Nat} (h : ∀ x ∈ l, x < s) : lb l s = l.length := by unfold lb; rw [List.countP_eq_length]; simpa using h

theorem inRuns_nums {rs : List (Nat × Nat)} (h : RunsOK rs) (x : Nat) : inRuns rs x = inList (rgNums rs) x := by
  unfold inRuns inList
  rw [Bool.eq_iff_iff]
  simp only [List.any_eq_true, Bool.and_eq_true, decide_eq_true_eq]
  rw [rgNums_mem (fun q hq => (h.1 q hq).1)]
end Go.Roar

namespace Go.Roar
open Go.RowKit
/-- Two structs in boxes of their own. -/
theorem boxes2 (w : World) (t : TypeId) (a b c d : Value) :
    let W := (w.alloc (.cells #[a, b] t)).alloc (.cells #[c, d] t)
    W.cell? ⟨w.heap.size, 0, none⟩ = some a ∧ W.cell? ⟨w.heap.size, 1, none⟩ = some b ∧ W.cell? ⟨w.heap.size + 1, 0, none⟩ = some c ∧ W.cell? ⟨w.heap.size + 1, 1, none⟩ = some d ∧ Kept (fun _ => False) w W := by
  have h1 : Blk ((w.alloc (.cells #[a, b] t)).alloc (.cells #[c, d] t)) w.heap.size t [a, b] := (Blk.new w t [a, b]).alloc _
  have h2 : Blk ((w.alloc (.cells #[a, b] t)).alloc (.cells #[c, d] t)) (w.heap.size + 1) t [c, d] := by
    have := Blk.new (w.alloc (.cells #[a, b] t)) t [c, d]
    rwa [show (w.alloc (.cells #[a, b] t)).heap.size = w.heap.size + 1 by simp] at this
  exact ⟨h1.cell 0, h1.cell 1, h2.cell 0, h2.cell 1, ((Kept.refl _ _).alloc _).alloc _⟩


/-- Cell o of the part at place i; that it may be written. -/
theorem SS.cell {w0 w : World} {F0 : List Nat} {L : List HA} (h : SS w0 F0 w L) (i : Nat) {b : Nat} {t : TypeId} {cs : List Value} (hA : L[i]? = some (B b t cs)) (o : Nat) {v : Value} (hv : cs[o]? = some v) : w.cell? ⟨b, o, none⟩ = some v :=
  (Blk.cell (h.get (List.mem_of_getElem? hA)) o).trans hv
theorem SS.free {w0 w : World} {F0 : List Nat} {L : List HA} (h : SS w0 F0 w L) (i : Nat) {b : Nat} {t : TypeId} {cs : List Value} (hA : L[i]? = some (B b t cs)) (o : Nat) : w.frozen? ⟨b, o, none⟩ = false :=
  Blk.free (h.get (List.mem_of_getElem? hA)) o
theorem SS.mild {w0 w : World} {L : List HA} (h : SS w0 [] w L) : Kept (fun _ => False) w0 w := h.kept.mono (fun _ _ hk => by cases hk)
end Go.Roar
namespace Go.Proofs
open Go.RowKit Go.Roar
attribute [local go_sem ↓] Go.wp_at_zero Go.wp_at_succ

/-- Nothing that was there has been written. -/
abbrev Mild (w w' : World) : Prop := Kept (fun _ => False) w w'


theorem newInterval_any (a b : Nat) (w : World) (hab : a ≤ b) (hb : b < 65536) :
    Calls Tryz.prog 55 #[.int .u16 a, .int .u16 b] w fun ed w' => ed = .returned (.agg #[.int .u16 a, .int .u16 ((b - a : Nat) : Int)]) ∧ Mild w w' := by
  go_enter Tryz.func55, Tryz.ntmps55
  go_wp2
  refine bodyPost_ret (v := .agg #[.int .u16 a, .int .u16 ((b : Int) - a)]) (by simp [results, Tryz.results55, go_sem]) rfl ?_
  exact ⟨by rw [Int.ofNat_sub hab], (Kept.refl _ _).alloc _⟩
theorem last_any (a l : Nat) (w : World) (hb : a + l < 65536) :
    Calls Tryz.prog 68 #[.agg #[.int .u16 a, .int .u16 l]] w fun ed w' => ed = .returned (.int .u16 ((a + l : Nat) : Int)) ∧ Mild w w' := by
  go_enter Tryz.func68, Tryz.ntmps68
  go_wp2
  go_ret
  exact ⟨by simp, (Kept.refl _ _).alloc _⟩
theorem runlen_any (a l : Nat) (w : World) (hb : a + l < 65536) :
    Calls Tryz.prog 66 #[.agg #[.int .u16 a, .int .u16 l]] w fun ed w' => ed = .returned (.int .i64 ((l + 1 : Nat) : Int)) ∧ Mild w w' := by
  go_enter Tryz.func66, Tryz.ntmps66
  go_wp2
  go_ret
  exact ⟨by simp, (Kept.refl _ _).alloc _⟩
theorem canMerge_any (a la b lb : Nat) (w : World) (ha : a + la < 65536) (hb : b + lb < 65536) :
    Calls Tryz.prog 230 #[.agg #[.int .u16 a, .int .u16 la], .agg #[.int .u16 b, .int .u16 lb]] w fun ed w' => ed = .returned (.bool (decide (b ≤ a + la + 1 ∧ a ≤ b + lb + 1))) ∧ Mild w w' := by
  go_enter Tryz.func230, Tryz.ntmps230
  go_wp2
  obtain ⟨c1, c2, c3, c4, m0⟩ := boxes2 w 114 (.int .u16 (a : Int)) (.int .u16 (la : Int)) (.int .u16 (b : Int)) (.int .u16 (lb : Int))
  generalize ((w.alloc (.cells #[.int .u16 (a : Int), .int .u16 (la : Int)] 114)).alloc (.cells #[.int .u16 (b : Int), .int .u16 (lb : Int)] 114)) = W at *
  generalize w.heap.size = H at *
  have q1 : IntKind.i64.wrap ((a : Int) + la) = (a : Int) + la := IntWalk.i64_in _ (by omega)
  have q2 : IntKind.i64.wrap ((a : Int) + la + 1) = (a : Int) + la + 1 := IntWalk.i64_in _ (by omega)
  have q3 : IntKind.i64.wrap (b : Int) = (b : Int) := IntWalk.i64_in _ (by omega)
  have q4 : IntKind.i64.wrap ((b : Int) + lb) = (b : Int) + lb := IntWalk.i64_in _ (by omega)
  have q5 : IntKind.i64.wrap ((b : Int) + lb + 1) = (b : Int) + lb + 1 := IntWalk.i64_in _ (by omega)
  have q6 : IntKind.i64.wrap (a : Int) = (a : Int) := IntWalk.i64_in _ (by omega)
  go_region_held3 (fun w' => w'.cell? ⟨H, 0, none⟩ = some (.int .u16 a) ∧ w'.cell? ⟨H, 1, none⟩ = some (.int .u16 la) ∧ w'.cell? ⟨H + 1, 0, none⟩ = some (.int .u16 b) ∧ w'.cell? ⟨H + 1, 1, none⟩ = some (.int .u16 lb) ∧ Mild w w') (first | exact ⟨hk.cell2 id (by first | exact c1 | assumption), hk.cell2 id (by first | exact c2 | assumption), hk.cell2 id (by first | exact c3 | assumption), hk.cell2 id (by first | exact c4 | assumption), Kept.trans (by first | exact m0.drew | assumption) hk⟩ | exact ⟨c1, c2, c3, c4, m0.drew⟩ | exact ⟨c1, c2, c3, c4, m0⟩) (first | (go_at_call 68; refine (last_any _ _ _ (by omega)).mono ?_; rintro ed w' ⟨rfl, hk⟩))
  rename_i hH
  clear c1 c2 c3 c4 m0 hk
  obtain ⟨c1, c2, c3, c4, m0⟩ := hH
  go_wp2
  · go_ret
    have hlt : (a : Int) + la + 1 < b := by assumption
    exact ⟨congrArg (fun x => Ending.returned (Value.bool x)) (decide_eq_false (by omega)).symm, m0⟩
  · have hge : (b : Int) ≤ (a : Int) + la + 1 := by assumption
    go_region_held3 (fun w' => w'.cell? ⟨H, 0, none⟩ = some (.int .u16 a) ∧ w'.cell? ⟨H, 1, none⟩ = some (.int .u16 la) ∧ w'.cell? ⟨H + 1, 0, none⟩ = some (.int .u16 b) ∧ w'.cell? ⟨H + 1, 1, none⟩ = some (.int .u16 lb) ∧ Mild w w') (first | exact ⟨hk.cell2 id (by first | exact c1 | assumption), hk.cell2 id (by first | exact c2 | assumption), hk.cell2 id (by first | exact c3 | assumption), hk.cell2 id (by first | exact c4 | assumption), Kept.trans (by first | exact m0.drew | assumption) hk⟩ | exact ⟨c1, c2, c3, c4, m0.drew⟩ | exact ⟨c1, c2, c3, c4, m0⟩) (first | (go_at_call 68; refine (last_any _ _ _ (by omega)).mono ?_; rintro ed w' ⟨rfl, hk⟩))
    rename_i hH
    go_wp2
    go_ret
    exact ⟨congrArg (fun x => Ending.returned (Value.bool x)) (decide_eq_decide.2 (by omega)), hH.2.2.2.2⟩
theorem merge_any (a la b lb : Nat) (w : World) (ha : a + la < 65536) (hb : b + lb < 65536) (h : b ≤ a + la + 1 ∧ a ≤ b + lb + 1) :
    Calls Tryz.prog 231 #[.agg #[.int .u16 a, .int .u16 la], .agg #[.int .u16 b, .int .u16 lb]] w fun ed w' => ed = .returned (.agg #[.int .u16 (Nat.min a b : Nat), .int .u16 (Nat.max (a + la) (b + lb) - Nat.min a b : Nat)]) ∧ Mild w w' := by
  have S0 := (((SS.init (w := w) (L := []) ⟨by simp, by simp⟩).new 114 [.int .u16 (a : Int), .int .u16 (la : Int)]).new 114 [.int .u16 (b : Int), .int .u16 (lb : Int)]).new 114 [.int .u16 (0 : Int), .int .u16 (0 : Int)]
  simp only [World.size_alloc] at S0
  go_enter Tryz.func231, Tryz.ntmps231
  go_upto_if 14 with (first | (go_at_call 230; refine (canMerge_any _ _ _ _ _ (by omega) (by omega)).mono ?_; rw [decide_eq_true h]; rintro ed w1 ⟨rfl, hk⟩; have S1 := S0.quiet hk; have c1 := S1.cell 2 rfl 0 rfl; have c3 := S1.cell 1 rfl 0 rfl; have c5 := fun o => S1.free 0 rfl o; have c6 := S1.cell 0 rfl 0 rfl))
  clear S0 hk
  generalize w.heap.size = H at *
  go_cut [4] (fun s4 wx => s4 = .pointer (some ⟨H + 1 + 1, 0, none⟩) ∧ SS w [] wx [B (H + 1 + 1) 114 [.int .u16 (Nat.min a b : Nat), .int .u16 (0 : Int)], B (H + 1) 114 [.int .u16 (b : Int), .int .u16 (lb : Int)], B H 114 [.int .u16 (a : Int), .int .u16 (la : Int)]])
  case first =>
    go_wp2
    · go_meet
      case rel =>
        have hlt : b < a := by assumption
        rw [show Nat.min a b = b from Nat.min_eq_right (by omega)]
        exact ⟨rfl, S1.store (L := []) 0 _⟩
    · go_meet
      case rel =>
        have hlt : ¬ b < a := by assumption
        rw [show Nat.min a b = a from Nat.min_eq_left (by omega)]
        exact ⟨rfl, S1.store (L := []) 0 _⟩
  case rest =>
    obtain ⟨rfl, S2⟩ := hcut
    clear S1 c1 c3 c5 c6
    have hm : Nat.min a b ≤ a ∧ Nat.min a b ≤ b := ⟨Nat.min_le_left _ _, Nat.min_le_right _ _⟩
    generalize hs : Nat.min a b = s at *
    have Hs := Lib.hid hs
    clear hs
    have c1 := S2.cell 2 rfl 0 rfl
    have c2 := S2.cell 2 rfl 1 rfl
    have c3 := S2.cell 1 rfl 0 rfl
    have c4 := S2.cell 1 rfl 1 rfl
    go_wp2
    go_region_held3 (fun w' => w'.cell? ⟨H, 0, none⟩ = some (.int .u16 a) ∧ w'.cell? ⟨H, 1, none⟩ = some (.int .u16 la) ∧ w'.cell? ⟨H + 1, 0, none⟩ = some (.int .u16 b) ∧ w'.cell? ⟨H + 1, 1, none⟩ = some (.int .u16 lb) ∧ w'.cell? ⟨H + 1 + 1, 0, none⟩ = some (.int .u16 s) ∧ SS w [] w' [B (H + 1 + 1) 114 [.int .u16 (s : Int), .int .u16 (0 : Int)], B (H + 1) 114 [.int .u16 (b : Int), .int .u16 (lb : Int)], B H 114 [.int .u16 (a : Int), .int .u16 (la : Int)]]) (first | (have S9 := SS.quiet (And.right (And.right (And.right (And.right (And.right (by assumption)))))) hk; exact ⟨S9.cell 2 rfl 0 rfl, S9.cell 2 rfl 1 rfl, S9.cell 1 rfl 0 rfl, S9.cell 1 rfl 1 rfl, S9.cell 0 rfl 0 rfl, S9⟩) | (have S9 := S3.drew; exact ⟨S9.cell 2 rfl 0 rfl, S9.cell 2 rfl 1 rfl, S9.cell 1 rfl 0 rfl, S9.cell 1 rfl 1 rfl, S9.cell 0 rfl 0 rfl, S9⟩) | (have S9 := S2.drew; exact ⟨S9.cell 2 rfl 0 rfl, S9.cell 2 rfl 1 rfl, S9.cell 1 rfl 0 rfl, S9.cell 1 rfl 1 rfl, S9.cell 0 rfl 0 rfl, S9⟩)) (first | (go_at_call 68; refine (last_any _ _ _ (by omega)).mono ?_; rintro ed w' ⟨rfl, hk⟩))
    all_goals (rename_i hH; clear c1 c2 c3 c4; obtain ⟨c1, c2, c3, c4, c5, S3⟩ := hH; go_wp2)
    all_goals (have f1 := S3.cell 0 rfl 1 rfl; have f2 := S3.free 0 rfl 1)
    all_goals go_region_with (first | (go_at_call 68; refine (last_any _ _ _ (by omega)).mono ?_; rintro ed w4 ⟨rfl, hk4⟩; have S4 := S3.drew.quiet hk4; have d1 := S4.cell 2 rfl 0 rfl; have d2 := S4.cell 2 rfl 1 rfl; have d3 := S4.cell 1 rfl 0 rfl; have d4 := S4.cell 1 rfl 1 rfl; have d5 := S4.cell 0 rfl 0 rfl; have d6 := S4.cell 0 rfl 1 rfl; have d7 := S4.free 0 rfl 1))
    all_goals (have S5 := S4.store (L := []) 1 (.int .u16 ((Nat.max (a + la) (b + lb) - s : Nat) : Int)); have e1 := S5.cell 0 rfl 0 rfl; have e2 := S5.cell 0 rfl 1 rfl)
    all_goals (first
      | rw [show IntKind.u16.wrap ((b : Int) + lb - s) = ((Nat.max (a + la) (b + lb) - s : Nat) : Int) from by rw [show Nat.max (a + la) (b + lb) = b + lb from Nat.max_eq_right (by omega), IntWalk.u16_in _ (by omega)]; omega]
      | rw [show IntKind.u16.wrap ((a : Int) + la - s) = ((Nat.max (a + la) (b + lb) - s : Nat) : Int) from by rw [show Nat.max (a + la) (b + lb) = a + la from Nat.max_eq_left (by omega), IntWalk.u16_in _ (by omega)]; omega])
    all_goals go_wp2
    all_goals (refine bodyPost_ret (v := .agg #[.int .u16 (s : Int), .int .u16 ((Nat.max (a + la) (b + lb) - s : Nat) : Int)]) (by simp [results, Tryz.results231, go_sem, e1, e2]) rfl ⟨by rw [Hs.out], S5.mild⟩)
end Go.Proofs

namespace Go.Roar
open Go.RowKit

theorem wp_free {P : Program} {o : Oper} {a : Act} {w : World} {K : Act → World → Prop} {Q Q' : Exit → Act → World → Prop} (hQ : ∀ e a w, Q' e a w → e = .normal ∧ K a w) (hh : o.wp P a w (Q' .normal) Q') : o.wp P a w K Q := by
  unfold Oper.wp at *
  generalize (execOp a.eval o).run P w = r at *
  cases r with
  | ok n w' =>
    cases n <;> simp only [Oper.upon] at hh ⊢ <;>
      first
        | exact (hQ _ _ _ hh).2
        | exact Calls.mono hh (fun e w'' he => by
            cases e <;> first
              | exact (hQ _ _ _ he).2
              | (have := (hQ _ _ _ he).1; cases this)
              | (obtain ⟨a, w, hl⟩ := he; have := (hQ _ _ _ hl).1; cases this))
        | exact Rows.mono hh (fun _ _ he => (hQ _ _ _ he).2)
  | halt x w' => cases x <;> simp only [Oper.upon] at hh ⊢ <;> first | exact hh | (have := (hQ _ _ _ hh).1; cases this)

theorem step_of_list {P : Program} {ops : Array Oper} {o : Oper} {a : Act} {w : World} {K : Act → World → Prop} {Q : Exit → Act → World → Prop} {E : Prop} (hg : o.guard = none)
    (h : ∀ Q' : Exit → Act → World → Prop, (∀ a' w', K a' w' → Q' .normal a' w') → wpList P ops Q' [o] a w) :
    if Region.wanted o (yielded ops a.tmps) = true then Oper.wp P o a w K Q else E := by
  have hw : Region.wanted o (yielded ops a.tmps) = true := by simp [Region.wanted, hg]
  rw [if_pos hw]
  have := h (fun e a w => e = .normal ∧ K a w) (fun a' w' hk => ⟨rfl, hk⟩)
  simp only [wpList, if_pos hw] at this
  rcases this with h | ⟨_, a', w', h, _⟩
  · exact wp_free (Q' := fun e a w => e = .normal ∧ K a w) (fun e a w h => h) (Oper.wp_mono (fun a w hk => ⟨rfl, hk.2⟩) h)
  · cases h

theorem Blk.news {w : World} {b : Nat} {t : TypeId} {cs : List Value} (h : Blk w b t cs) : ∀ j u, cs[j]? = some u → w.cell? ((⟨b, 0, none⟩ : Addr).add j) = some u := fun j u hu => by
  have hadd : (⟨b, 0, none⟩ : Addr).add j = ⟨b, j, none⟩ := by unfold Addr.add; split <;> simp_all
  rw [hadd, h.cell]; exact hu
theorem SS.bare (w : World) (size : Nat) (e : TypeId) : SS w [] w [O size e (.slice none 0 0) 0 []] := SS.init (L := [O size e (.slice none 0 0) 0 []]) ⟨by simp [O, Own.nil], by simp [O]⟩
theorem SS.nothing (w : World) : SS w [] w [] := SS.init (L := []) ⟨by simp, by simp⟩
end Go.Roar
