/-
  Array containers: the search in what they own; numbers of a range are added.
-/
import Derived.Test.YtjjijipfhnoomaaGreatDoorJHeap
import Derived.Test.YtjjijipfhnoomaaGreatDoorKIns
import Derived.Deep.DeepCutAuto
namespace Go.Proofs
open Go.RowKit Go.Roar

theorem lb_succ {l : List Nat} (hs : Rising l) (x : Nat) : (l[lb l x]? = some x → lb l (x + 1) = lb l x + 1) ∧ (l[lb l x]? ≠ some x → lb l (x + 1) = lb l x) := by
  have hle := lb_le l x
  refine ⟨fun h => ?_, fun h => ?_⟩
  · have hlt : lb l x < l.length := (List.getElem?_eq_some_iff.1 h).1
    refine lb_eq hs (by omega) (fun j y hj hy => ?_) (fun y hy => ?_)
    · rcases Nat.lt_or_ge j (lb l x) with h' | h'
      · have := lb_below hs x j y h' hy; omega
      · obtain rfl : j = lb l x := by omega
        rw [h] at hy; cases hy; omega
    · have := rising_lt hs _ _ _ _ (Nat.lt_succ_self _) h hy; omega
  · refine lb_eq hs hle (fun j y hj hy => ?_) (fun y hy => ?_)
    · have := lb_below hs x j y hj hy; omega
    · have h1 := lb_above hs x _ _ (Nat.le_refl _) hy
      rcases Nat.lt_or_ge x y with h' | h'
      · exact h'
      · obtain rfl : y = x := by omega
        exact absurd hy h

theorem lb_mono (l : List Nat) {x y : Nat} (h : x ≤ y) : lb l x ≤ lb l y := by
  unfold lb
  exact List.countP_mono_left (fun a _ ha => by simp at *; omega)

theorem lb_gap {l : List Nat} (hs : Rising l) (s d : Nat) : lb l (s + d) ≤ lb l s + d := by
  induction d with
  | zero => simp
  | succ d ih =>
    have := lb_succ hs (s + d)
    by_cases h : l[lb l (s + d)]? = some (s + d)
    · rw [show s + (d + 1) = s + d + 1 from rfl, this.1 h]; omega
    · rw [show s + (d + 1) = s + d + 1 from rfl, this.2 h]; omega

theorem bs_own (v : Value) (l : List Nat) (x : Nat) (w : World) (hs : Rising l) (hb : ∀ y ∈ l, y < 65536) (hlen : l.length ≤ 65536) (hx : x < 65536) (h : Own w 1 57 v l.length (u16s l)) :
    Calls Tryz.prog 52 #[v, .int .u16 x] w fun e w' => e = .returned (.int .i64 (bsOf l x)) ∧ w = w' := by
  rcases Nat.eq_zero_or_pos l.length with h0 | h0
  · obtain rfl := List.eq_nil_of_length_eq_zero h0
    rcases h.2 with ⟨rfl, _⟩ | ⟨g, k, r, rfl, _, _, hg⟩
    · clear h hs hb hlen h0
      go_enter Tryz.func52, Tryz.ntmps52
      go_wp2
      refine wp_loop_rounds 1 ?_
      rw [rounds_succ]
      go_wp2
      refine wp_loop_rounds 1 ?_
      rw [rounds_succ]
      go_wp2
      go_ret
      exact ⟨rfl, rfl⟩
    · exact binarySearch_any g _ _ [] r x w hs hb hlen hx hg
  · obtain ⟨g, k, r, rfl, _, _, hg⟩ := h.open h0
    exact binarySearch_any g _ _ l r x w hs hb hlen hx hg

theorem acLen_any (p : Nat) (v : Value) (l : List Nat) (w : World) (hv : w.cell? ⟨p, 0, none⟩ = some v) (ho : Own w 1 57 v l.length (u16s l)) :
    Calls Tryz.prog 74 #[.pointer (some ⟨p, 0, none⟩)] w fun e w' => e = .returned (.int .i64 (l.length : Int)) ∧ w = w' := by
  rcases ho.2 with ⟨rfl, h0⟩ | ⟨g, k, r, rfl, _, _, _⟩
  · rw [h0]
    clear h0 ho
    go_enter Tryz.func74, Tryz.ntmps74
    go_wp2
    go_ret
    exact ⟨rfl, rfl⟩
  · clear ho
    generalize l.length = n at *
    go_enter Tryz.func74, Tryz.ntmps74
    go_wp2
    go_ret
    exact ⟨rfl, rfl⟩

/-- l with the numbers from s on, below e. -/
def addR (l : List Nat) (s e : Nat) : List Nat := l.take (lb l s) ++ List.range' s (e - s) ++ l.drop (lb l e)

theorem addR_length (l : List Nat) (s e : Nat) : (addR l s e).length = lb l s + (e - s) + (l.length - lb l e) := by
  have := lb_le l s
  simp [addR]; omega

/-- xs with k numbers from s on laid at place i. -/
def laid (xs : List Value) (i s k : Nat) : List Value := xs.take i ++ u16s (List.range' s k) ++ xs.drop (i + k)

theorem laid_zero (xs : List Value) (i s : Nat) : laid xs i s 0 = xs := by simp [laid, u16s]
theorem laid_length (xs : List Value) (i s k : Nat) (h : i + k ≤ xs.length) : (laid xs i s k).length = xs.length := by simp [laid]; omega
theorem laid_set (xs : List Value) (i s k : Nat) (h : i + k < xs.length) : (laid xs i s k).set (i + k) (.int .u16 ((s + k : Nat) : Int)) = laid xs i s (k + 1) := by
  have h1 : (xs.take i ++ u16s (List.range' s k)).length = i + k := by simp; omega
  unfold laid
  rw [List.set_append_right _ _ (by omega), h1, Nat.sub_self, List.drop_eq_getElem_cons h, List.set_cons_zero, List.range'_concat]
  simp [u16s, Nat.add_assoc]

theorem splice_two {α : Type} (zs xs ys : List α) (i k : Nat) (hx : xs.length = i) (hz : i + k + ys.length = zs.length) :
    (splice (splice zs 0 xs) (i + k) ys).take i = xs ∧ (splice (splice zs 0 xs) (i + k) ys).drop (i + k) = ys := by
  subst hx
  have h1 : ((xs ++ zs.drop xs.length).take (xs.length + k)).length = xs.length + k := by simp; omega
  unfold splice
  simp only [List.take_zero, List.nil_append, Nat.zero_add]
  constructor
  · rw [List.take_append_of_le_length (by rw [h1]; omega), List.take_take, Nat.min_eq_left (by omega), List.take_left]
  · rw [List.drop_append_of_le_length (by rw [h1]; omega), List.drop_of_length_le (by rw [h1]; omega), List.nil_append, List.drop_of_length_le (by simp; omega), List.append_nil]

theorem splice_one {α : Type} (zs ys : List α) (i k : Nat) (hz : i + k + ys.length = zs.length) :
    (splice zs (i + k) ys).take i = zs.take i ∧ (splice zs (i + k) ys).drop (i + k) = ys := by
  have h1 : (zs.take (i + k)).length = i + k := by simp; omega
  unfold splice
  constructor
  · rw [List.take_append_of_le_length (by rw [h1]; omega), List.take_take, Nat.min_eq_left (by omega)]
  · rw [List.drop_append_of_le_length (by rw [h1]; omega), List.drop_of_length_le (by rw [h1]; omega), List.nil_append, List.drop_of_length_le (by omega), List.append_nil]

theorem laid_addR (l : List Nat) (s e : Nat) (xs : List Value) (h1 : xs.take (lb l s) = (u16s l).take (lb l s)) (h2 : xs.drop (lb l s + (e - s)) = (u16s l).drop (lb l e)) : laid xs (lb l s) s (e - s) = u16s (addR l s e) := by
  unfold laid addR
  rw [h1, h2]
  simp [u16s, List.map_take, List.map_drop]

set_option maxRecDepth 100000 in
set_option maxHeartbeats 8000000 in
theorem acAddRange_blk (p g c : Nat) (l : List Nat) (s e : Nat) (w : World) (hs : Rising l) (hb : ∀ y ∈ l, y < 65536) (hl : l.length ≤ 4096) (hse : s < e) (he : e ≤ 65536) (hcard : lb l s + (l.length - lb l e) + (e - s) ≤ 4096)
    (h : Parts w (AC p (.slice (some ⟨g, 0, none⟩) l.length c) l)) :
    Calls Tryz.prog 67 #[.pointer (some ⟨p, 0, none⟩), .int .i64 s, .int .i64 e] w fun ed w' => ed = .returned (.iface 82 (.pointer (some ⟨p, 0, none⟩))) ∧
      ∃ v', SS w (foot (AC p (.slice (some ⟨g, 0, none⟩) l.length c) l)) w' (AC p v' (addR l s e)) := by
  have S0 := SS.init h
  generalize hF : foot (AC p (.slice (some ⟨g, 0, none⟩) l.length c) l) = F at *
  clear hF h
  unfold AC at S0
  have k0 := S0.at0
  have ho : Own w 1 57 (.slice (some ⟨g, 0, none⟩) l.length c) l.length (u16s l) := S0.get (A := O 1 57 (.slice (some ⟨g, 0, none⟩) l.length c) l.length (u16s l)) (by simp)
  obtain ⟨hnc, hcm⟩ := ho.caps
  have C1 := Lib.hid (bs_own _ l s w hs hb (by omega) (by omega) ho)
  have C2 := bs_own _ l (e - 1) w hs hb (by omega) (by omega) ho
  rw [show ((e - 1 : Nat) : Int) = (e : Int) - 1 by omega] at C2
  have C2 := Lib.hid C2
  have C3 := Lib.hid (acLen_any p _ l w k0 ho)
  have hsm := lb_mono l (show s ≤ e by omega)
  have hgap := lb_gap hs s (e - s)
  rw [show s + (e - s) = e by omega] at hgap
  have hle := lb_le l e
  have hR1 : bsOf l s = lb l s ∨ bsOf l s = - ((lb l s : Int) + 1) := by unfold bsOf; split <;> simp
  have hR2 : (bsOf l (e - 1) = (lb l e : Int) - 1 ∧ 0 < lb l e) ∨ bsOf l (e - 1) = - ((lb l e : Int) + 1) := by
    have := lb_succ hs (e - 1)
    rw [show e - 1 + 1 = e by omega] at this
    by_cases hh : l[lb l (e - 1)]? = some (e - 1)
    · rw [this.1 hh]; unfold bsOf; rw [if_pos hh]; left; omega
    · rw [this.2 hh]; unfold bsOf; rw [if_neg hh]; right; rfl
  have Hs := Lib.hid hs
  clear hs hb ho
  generalize hn : l.length = n at *
  generalize hi : lb l s = i at *
  generalize hj : lb l e = j at *
  generalize hr1 : bsOf l s = r1 at *
  generalize hr2 : bsOf l (e - 1) = r2 at *
  have Hn := Lib.hid hn
  have Hi := Lib.hid hi
  have Hj := Lib.hid hj
  have HR1 := Lib.hid hR1
  have HR2 := Lib.hid hR2
  clear hn hi hj hr1 hr2 hR1 hR2
  go_enter Tryz.func67, Tryz.ntmps67
  go_upto_if 27 with (go_at_call 52; refine C1.out.mono ?_; rintro ed w' ⟨rfl, rfl⟩)
  go_cut [7] (fun s7 wx => s7 = .int .i64 (i : Int) ∧ w = wx)
  case first =>
    rcases HR1.out with rfl | rfl
    all_goals
      go_wp2
      go_meet
      case rel => exact ⟨int_eq (by omega), rfl⟩
  case rest =>
    obtain ⟨rfl, rfl⟩ := hcut
    go_upto_if 40 with (go_at_call 52; refine C2.out.mono ?_; rintro ed w' ⟨rfl, rfl⟩)
    go_cut [8] (fun s8 wx => s8 = .int .i64 (j : Int) ∧ w = wx)
    case first =>
      rcases HR2.out with ⟨rfl, hr0⟩ | rfl
      all_goals
        go_wp2
        go_meet
        case rel => exact ⟨int_eq (by omega), rfl⟩
    case rest =>
      obtain ⟨rfl, rfl⟩ := hcut
      go_upto_if 71 with (go_at_call 74; refine C3.out.mono ?_; rintro ed w' ⟨rfl, rfl⟩)
      go_cut [12] (fun s12 wx => ∃ v' xs, SS w F wx [B p 106 [v'], O 1 57 v' (i + (n - j) + (e - s)) xs] ∧ xs.take i = (u16s l).take i ∧ xs.drop (i + (e - s)) = (u16s l).drop j)
      case first =>
        by_cases hcap : c < i + (n - j) + (e - s)
        · obtain ⟨iU, u1, u2, u3, u4⟩ := info_parts infoU16
          have q1 : IntKind.i64.wrap ((i : Int) + ((e : Int) - s)) = (i : Int) + ((e : Int) - s) := IntWalk.i64_in _ (by omega)
          have hzl : ((madeCells (Value.int IntKind.u16 (0 : Int)).cells ((i + (n - j) + (e - s)) * 1)).toList).length = (i + (n - j) + (e - s)) := by simp [size_madeCells]
          have ht1 : (splice ((madeCells (Value.int IntKind.u16 (0 : Int)).cells ((i + (n - j) + (e - s)) * 1)).toList) 0 ((u16s l).take i)).length = (i + (n - j) + (e - s)) := by rw [length_splice _ _ _ (by rw [hzl]; simp [Hn.out]; omega), hzl]
          generalize hZ : (madeCells (Value.int IntKind.u16 (0 : Int)).cells ((i + (n - j) + (e - s)) * 1)).toList = zs at *
          have HzL := Lib.hid hzl
          have HtL := Lib.hid ht1
          clear hzl ht1
          have s3 := fun (W : World) => run_slice_to (P := Tryz.prog) W undU16s szU16 (some ⟨g, 0, none⟩) n c i .i64 (i : Int) rfl (by omega)
          have s4 := fun (W : World) => run_slice_from (P := Tryz.prog) W undU16s szU16 g 0 n c j .i64 (j : Int) rfl (by omega)
          go_wp2_with (first
            | (at_make; refine wpList_make_ss rfl (.tmp 72) (.tmp 73) 59 rfl 57 iU (.int .u16 0) 1 undU16s u1 u2 u3 w F [B p 106 [Value.slice (some ⟨g, 0, none⟩) n c], O 1 57 (.slice (some ⟨g, 0, none⟩) n c) n (u16s l)] S0 .i64 .i64 _ _ (i + (n - j) + (e - s)) rfl rfl (by omega) (by omega) (by rw [u4]; omega) (by unfold maxLen; omega) ?_; rw [hZ]; intro g2 w2 S2; have f0 := S2.swap.at0; have s1 := fun (W : World) => run_slice_to (P := Tryz.prog) W undU16s szU16 (some ⟨g2, 0, none⟩) (i + (n - j) + (e - s)) (i + (n - j) + (e - s)) i .i64 (i : Int) rfl (by omega); have s2 := fun (W : World) => run_slice_from (P := Tryz.prog) W undU16s szU16 g2 0 (i + (n - j) + (e - s)) (i + (n - j) + (e - s)) (i + (e - s)) .i64 ((i : Int) + ((e : Int) - s)) (by omega) (by omega))
            | (refine wpList_copy_ss rfl (.tmp 77) (.tmp 83) 59 59 rfl 57 1 undU16s szU16 w F [] [B p 106 [Value.slice (some ⟨g, 0, none⟩) n c], O 1 57 (.slice (some ⟨g, 0, none⟩) n c) n (u16s l)] g2 (i + (n - j) + (e - s)) (i + (n - j) + (e - s)) zs S2.drew (some ⟨g2, 0, none⟩) (some ⟨g, 0, none⟩) i (i + (n - j) + (e - s)) i c ?_ ?_ 0 i ((u16s l).take i) ?_ ?_ ?_ ?_ ?_ ?_; rfl; rfl; simp; (simp [Hn.out]; omega); exact (fun h0 => ⟨rfl, _, rfl, Own.src0 (S2.drew.get (A := O 1 57 (.slice (some ⟨g, 0, none⟩) n c) n (u16s l)) (by simp)) _ take_src⟩); (simp [Hn.out, HzL.out]; omega); exact (fun v hv => u16s_one l v (List.mem_of_mem_take hv)); intro w3 S3; have f1 := S3.swap.at0; have HS2 := Lib.hid S2; clear S2)
            | (refine wpList_copy_ss rfl (.tmp 89) (.tmp 95) 59 59 rfl 57 1 undU16s szU16 w F [] [B p 106 [Value.slice (some ⟨g, 0, none⟩) n c], O 1 57 (.slice (some ⟨g, 0, none⟩) n c) n (u16s l)] g2 (i + (n - j) + (e - s)) (i + (n - j) + (e - s)) (splice zs 0 ((u16s l).take i)) S3.drew (some (tlA g2 0 (i + (e - s)) (i + (n - j) + (e - s)) 1)) (some (tlA g 0 j c 1)) ((i + (n - j) + (e - s)) - (i + (e - s))) ((i + (n - j) + (e - s)) - (i + (e - s))) (n - j) (c - j) ?_ ?_ (i + (e - s)) (n - j) ((u16s l).drop j) ?_ ?_ ?_ ?_ ?_ ?_; rfl; rfl; exact (Nat.min_eq_left (by omega)).symm; simp [Hn.out]; exact (fun h0 => ⟨tl_some1 (by omega), _, rfl, Own.src (S3.drew.get (A := O 1 57 (.slice (some ⟨g, 0, none⟩) n c) n (u16s l)) (by simp)) j 1 (by omega) _ drop_src0⟩); (rw [HtL.out]; simp [Hn.out]; omega); exact (fun v hv => u16s_one l v (List.mem_of_mem_drop hv)); intro w4 S4; have f2 := S4.swap.at0; have f2f := fun o => S4.swap.free0 o; have S5 := SS.store (L := [O 1 57 (.slice (some ⟨g2, 0, none⟩) (i + (n - j) + (e - s)) (i + (n - j) + (e - s))) (i + (n - j) + (e - s)) (splice (splice zs 0 ((u16s l).take i)) (i + (e - s)) ((u16s l).drop j))]) S4 0 (.slice (some ⟨g2, 0, none⟩) (i + (n - j) + (e - s)) (i + (n - j) + (e - s))); clear S3 S4)
            | (refine wp_region_tail 9 (by kernel_rfl) (by decide +kernel) ?_; simp only [List.take_succ_cons, List.take_zero, List.drop_succ_cons, List.drop_zero]; repeat still_step; try (refine wpStill_nil ?_; show wpList _ _ _ _ _ _))
            | (refine wp_region_tail 11 (by kernel_rfl) (by decide +kernel) ?_; simp only [List.take_succ_cons, List.take_zero, List.drop_succ_cons, List.drop_zero]; repeat still_step; try (refine wpStill_nil ?_; show wpList _ _ _ _ _ _)))
          go_meet
          case rel =>
            have hsp := splice_two zs ((u16s l).take i) ((u16s l).drop j) i (e - s) (by simp [Hn.out]; omega) (by rw [HzL.out]; simp [Hn.out]; omega)
            exact ⟨_, _, S5.swap.left (L := [_, _]), hsp.1, hsp.2⟩
        · have S1 := SS.store (L := []) S0 0 (.slice (some ⟨g, 0, none⟩) (i + (n - j) + (e - s)) c)
          obtain ⟨ys, hy1, hy2, _, S2⟩ := SS.reslice (L := [B p 106 [Value.slice (some ⟨g, 0, none⟩) (i + (n - j) + (e - s)) c]]) (R := []) (m := (i + (n - j) + (e - s))) S1 (by omega)
          have hy2 := hy2 (by omega)
          have f0 := S0.free0
          have q1 : IntKind.i64.wrap ((i : Int) + ((e : Int) - s)) = (i : Int) + ((e : Int) - s) := IntWalk.i64_in _ (by omega)
          have Hy1 := Lib.hid hy1
          have Hy2 := Lib.hid hy2
          clear hy1 hy2 S1
          have s1 := fun (W : World) => run_slice_to (P := Tryz.prog) W undU16s szU16 (some ⟨g, 0, none⟩) n c (i + (n - j) + (e - s)) .i64 ((i : Int) + ((n : Int) - j) + ((e : Int) - s)) (by omega) (by omega)
          have s2 := fun (W : World) => run_slice_from (P := Tryz.prog) W undU16s szU16 g 0 (i + (n - j) + (e - s)) c (i + (e - s)) .i64 ((i : Int) + ((e : Int) - s)) (by omega) (by omega)
          have s3 := fun (W : World) => run_slice_from (P := Tryz.prog) W undU16s szU16 g 0 (i + (n - j) + (e - s)) c j .i64 (j : Int) rfl (by omega)
          go_wp2_with (first
            | (refine wpList_copy_ss rfl (.tmp 117) (.tmp 123) 59 59 rfl 57 1 undU16s szU16 w F [B p 106 [Value.slice (some ⟨g, 0, none⟩) (i + (n - j) + (e - s)) c]] [] g (i + (n - j) + (e - s)) c ys S2.drew (some (tlA g 0 (i + (e - s)) c 1)) (some (tlA g 0 j c 1)) ((i + (n - j) + (e - s)) - (i + (e - s))) (c - (i + (e - s))) ((i + (n - j) + (e - s)) - j) (c - j) ?_ ?_ (i + (e - s)) (n - j) ((u16s l).drop j) ?_ ?_ ?_ ?_ ?_ ?_; rfl; rfl; exact (by omega : n - j = (i + (n - j) + (e - s)) - (i + (e - s))).trans (Nat.min_eq_right (by omega)).symm; simp [Hn.out]; exact (fun h0 => ⟨tl_some1 (by omega), _, rfl, Own.src (S2.drew.get (A := O 1 57 (.slice (some ⟨g, 0, none⟩) (i + (n - j) + (e - s)) c) (i + (n - j) + (e - s)) ys) (by simp)) j 1 (by omega) _ (fun a v ha => take_src (i := n * 1) _ _ (by rw [Hy2.out]; exact drop_src0 _ _ ha))⟩); (rw [Hy1.out]; simp [Hn.out]; omega); exact (fun v hv => u16s_one l v (List.mem_of_mem_drop hv)); intro w3 S3)
            | (refine wp_region_tail 14 (by kernel_rfl) (by decide +kernel) ?_; simp only [List.take_succ_cons, List.take_zero, List.drop_succ_cons, List.drop_zero]; repeat still_step; try (refine wpStill_nil ?_; show wpList _ _ _ _ _ _)))
          go_meet
          case rel =>
            have hsp := splice_one ys ((u16s l).drop j) i (e - s) (by rw [Hy1.out]; simp [Hn.out]; omega)
            refine ⟨_, _, S3, ?_, hsp.2⟩
            rw [hsp.1, ← Hy2.out, List.take_take, Nat.min_eq_left (by omega)]
      case rest =>
        obtain ⟨v', xs, S1, hx1, hx2⟩ := hcut
        obtain ⟨g', c', rfl, hc1, hc2⟩ := Own.shape (S1.get (A := O 1 57 v' (i + (n - j) + (e - s)) xs) (by simp)) (by omega)
        have hxl : xs.length = (i + (n - j) + (e - s)) := by simpa using (S1.get (A := O 1 57 (.slice (some ⟨g', 0, none⟩) (i + (n - j) + (e - s)) c') (i + (n - j) + (e - s)) xs) (by simp)).1
        have Hx1 := Lib.hid hx1
        have Hx2 := Lib.hid hx2
        have Hxl := Lib.hid hxl
        clear hx1 hx2 hxl S0 k0
        unfold maxLen at hc2
        go_wp2
        go_loopw [13] (fun k wr => ∃ q : Nat, k = .int .i64 q ∧ q ≤ e - s ∧ SS w F wr [B p 106 [.slice (some ⟨g', 0, none⟩) (i + (n - j) + (e - s)) c'], O 1 57 (.slice (some ⟨g', 0, none⟩) (i + (n - j) + (e - s)) c') (i + (n - j) + (e - s)) (laid xs i s q)]) (fun k _ => e - s - (intOf k).toNat)
        case atStart => exact ⟨0, rfl, Nat.zero_le _, by rw [laid_zero]; exact S1⟩
        case round =>
          obtain ⟨q, rfl, hq, Sq⟩ := hrel
          have f0 := Sq.at0
          clear S1
          by_cases hlt : q < e - s
          · have hll : (laid xs i s q).length = (i + (n - j) + (e - s)) := by rw [laid_length _ _ _ _ (by rw [Hxl.out]; omega), Hxl.out]
            obtain ⟨x, hx⟩ : ∃ x, (laid xs i s q)[q + i]? = some x := ⟨_, List.getElem?_eq_getElem (by rw [hll]; omega)⟩
            have ca := Own.cellAt (Sq.get (A := O 1 57 (.slice (some ⟨g', 0, none⟩) (i + (n - j) + (e - s)) c') (i + (n - j) + (e - s)) (laid xs i s q)) (by simp)) hx
            have St := SS.storeO (L := [B p 106 [.slice (some ⟨g', 0, none⟩) (i + (n - j) + (e - s)) c']]) (R := []) Sq (i + q) (by rw [hll]; omega) (.int .u16 ((s + q : Nat) : Int))
            rw [laid_set _ _ _ _ (by rw [Hxl.out]; omega)] at St
            clear hx hll
            go_wp2
            go_roundw
            case rel => exact ⟨q + 1, by go_num, by omega, by rw [Nat.add_comm q i]; simpa using St⟩
            case measure => simp only [intOf]; omega
          · obtain rfl : q = e - s := by omega
            go_wp2
            go_ret
            refine ⟨rfl, .slice (some ⟨g', 0, none⟩) (i + (n - j) + (e - s)) c', ?_⟩
            have e1 := Hi.out
            have e2 := Hj.out
            subst e1 e2
            rw [laid_addR l s e xs Hx1.out Hx2.out] at Sq
            have e3 : (addR l s e).length = lb l s + (n - lb l e) + (e - s) := by rw [addR_length, Hn.out]; omega
            unfold AC
            rw [e3]
            exact Sq
end Go.Proofs
