/-
  bitmapContainer.iadd, iaddReturnMinimized: one number is added to bits.
  arrayContainer.iaddReturnMinimized: one number is added to an array of numbers.
-/
import Derived.Test.YtgohhikcmajmoaaGreatDoorJAcb
import Derived.Test.YtgohhikcmajmoaaGreatDoorJAo
import Derived.Test.YtgohhikcmajmoaaGreatDoorKTa
import Derived.Test.YtgohhikcmajmoaaGreatDoorJKo
import Derived.Laws.Bits64
namespace Go.Roar
open Go.RowKit Go.Proofs
theorem full_list {l : List Nat} (hs : Rising l) (hb : ∀ x ∈ l, x < 65536) (hn : l.length = 65536) : rgNums [(0, 65535)] = l := by
  have e : rgNums [(0, 65535)] = List.range' 0 65536 := by rw [rgNums_cons, rgNums_nil, List.append_nil]; rfl
  rw [e]
  refine sorted_ext (List.pairwise_lt_range') hs (fun x => ⟨fun h => ?_, fun h => by rw [List.mem_range'_1]; have := hb x h; omega⟩)
  rw [List.mem_range'_1] at h
  refine Decidable.byContradiction fun hno => ?_
  have h1 := sorted_sub hs ((List.pairwise_lt_range' (s := 0) (n := 65536)).filter (fun y => decide (y ≠ x))) (fun y hy => by
    rw [List.mem_filter, List.mem_range'_1]
    have := hb y hy
    exact ⟨by omega, by simp; rintro rfl; exact hno hy⟩)
  have h2 : ((List.range' 0 65536).filter (fun y => decide (y ≠ x))).length < (List.range' 0 65536).length := List.length_filter_lt_length_iff_exists.2 ⟨x, by rw [List.mem_range'_1]; omega, by simp⟩
  rw [List.length_range'] at h2
  omega
theorem bcNew_le {y k : Nat} : (y ^^^ (y ||| 2 ^ k)) / 2 ^ k ≤ 1 := by rw [bit_change]; split <;> omega
end Go.Roar
namespace Go.Proofs
open Go.RowKit Go.Roar

set_option maxRecDepth 100000 in
set_option maxHeartbeats 1000000 in
theorem bcIadd_any (p g c : Nat) (ws l : List Nat) (x : Nat) (w : World) (hl : ws.length = 1024) (hb : ∀ y ∈ ws, y < 18446744073709551616) (h0 : restFrom (bitOf ws) 0 = l) (hx : x < 65536)
    (h : Parts w (BC p l.length (.slice (some ⟨g, 0, none⟩) 1024 c) ws)) :
    Calls Tryz.prog 35 #[.pointer (some ⟨p, 0, none⟩), .int .u16 (x : Int)] w fun ed w' => ∃ b ws', ed = .returned (.bool b) ∧ ws'.length = 1024 ∧ (∀ y ∈ ws', y < 18446744073709551616) ∧ restFrom (bitOf ws') 0 = addS l x (x + 1) ∧
      SS w (foot (BC p l.length (.slice (some ⟨g, 0, none⟩) 1024 c) ws)) w' (BC p (addS l x (x + 1)).length (.slice (some ⟨g, 0, none⟩) 1024 c) ws') := by
  have S0 := SS.init h
  generalize foot (BC p l.length (.slice (some ⟨g, 0, none⟩) 1024 c) ws) = F at *
  obtain ⟨cb1, cb2⟩ := card_bit hb hl hx
  rw [h0] at cb1 cb2
  obtain ⟨y, hy⟩ : ∃ y, ws[x / 64]? = some y := ⟨_, List.getElem?_eq_getElem (by omega)⟩
  have hgy : ws.getD (x / 64) 0 = y := by rw [List.getD_eq_getElem?_getD, hy]; rfl
  have hset : ws.set (x / 64) (y ||| 2 ^ (x % 64)) = orAt ws (x / 64) (2 ^ (x % 64)) := by unfold orAt; rw [hgy]
  have hyl := hb y (List.mem_of_getElem? hy)
  obtain ⟨s1, s2⟩ := shl_one ⟨x % 64, by omega⟩
  dsimp only at s1 s2
  rw [hgy, ← bit_change] at cb2
  have hlen : l.length ≤ 65536 := by rw [← h0]; exact sorted_count (rest_sorted _) 65536 (rest_lt _)
  have hz : (y ^^^ (y ||| 2 ^ (x % 64))) / 2 ^ (x % 64) ≤ 1 := bcNew_le
  have ho := Nat.or_lt_two_pow (n := 64) hyl s2
  obtain ⟨M, hM⟩ : ∃ M, M = y ||| 2 ^ (x % 64) := ⟨_, rfl⟩
  obtain ⟨X, hX⟩ : ∃ X, X = y ^^^ M := ⟨_, rfl⟩
  obtain ⟨Z, hZ⟩ : ∃ Z, Z = X / 2 ^ (x % 64) := ⟨_, rfl⟩
  have e1 : bits .or .u64 (y : Int) (IntKind.u64.wrap (2 ^ (x % 64))) = (M : Int) := by rw [s1, hM]; exact or64 _ _ hyl s2
  rw [← hM] at hset ho hz cb2
  have e2 : bits .xor .u64 (y : Int) (M : Int) = (X : Int) := by rw [hX]; exact bits_xor_u64_nat _ _ hyl ho
  rw [← hX, ← hZ] at hz cb2
  have e3 : (X : Int) / 2 ^ (x % 64) = (Z : Int) := by rw [hZ]; push_cast; rfl
  have hMl : M < 18446744073709551616 := ho
  have Hcb := Lib.hid (And.intro cb1 cb2)
  have Hset := Lib.hid hset
  have q1 : IntKind.i64.wrap (Z : Int) = (Z : Int) := IntWalk.i64_in _ (by omega)
  have q2 : IntKind.i64.wrap ((l.length : Int) + (Z : Int)) = (l.length : Int) + (Z : Int) := IntWalk.i64_in _ (by omega)
  clear s1 s2 hM hX hZ cb1 cb2 hset hgy ho
  simp only [BC] at S0
  have c0 := S0.cell 0 rfl 0 rfl
  have c1 := S0.cell 0 rfl 1 rfl
  have ca := Own.cellAt (S0.get (A := O 1 48 (.slice (some ⟨g, 0, none⟩) 1024 c) 1024 (u64s ws)) (by simp)) (u64s_get hy)
  have S1 := SS.storeO (L := [B p 108 [.int .i64 (l.length : Int), .slice (some ⟨g, 0, none⟩) 1024 c]]) (R := []) S0 (x / 64) (by simp [u64s]; omega) (.int .u64 (M : Int))
  have d0 := S1.cell 0 rfl 0 rfl
  have d1 := S1.free 0 rfl 0
  go_enter Tryz.func35, Tryz.ntmps35
  go_wp2_with fail
  go_ret
  have S2 := SS.store (L := []) S1 0 (.int .i64 ((l.length : Int) + (Z : Int)))
  rw [u64s_set, Hset.out] at S2
  have e5 : ((addS l x (x + 1)).length : Int) = (l.length : Int) + (Z : Int) := by rw [Hcb.out.2]; push_cast; rfl
  refine ⟨_, orAt ws (x / 64) (2 ^ (x % 64)), rfl, by simp [hl], ?_, Hcb.out.1, ?_⟩
  · rw [← Hset.out]
    intro z hz
    rcases List.mem_or_eq_of_mem_set hz with hz | rfl
    · exact hb z hz
    · exact hMl
  · unfold BC
    rw [e5]
    exact S2
theorem isFull_any (p n : Nat) (w : World) (h : w.cell? ⟨p, 0, none⟩ = some (.int .i64 (n : Int))) : Calls Tryz.prog 196 #[.pointer (some ⟨p, 0, none⟩)] w fun ed w' => ed = .returned (.bool ((n : Int) == 65536)) ∧ w = w' := by
  go_enter Tryz.func196, Tryz.ntmps196
  go_wp2
  go_ret
  exact ⟨rfl, rfl⟩

set_option maxRecDepth 100000 in
set_option maxHeartbeats 1000000 in
theorem bcOne_any (p g c : Nat) (ws l : List Nat) (x : Nat) (w : World) (hl : ws.length = 1024) (hb : ∀ y ∈ ws, y < 18446744073709551616) (h0 : 4096 < l.length) (hx0 : restFrom (bitOf ws) 0 = l) (hx : x < 65536)
    (h : Parts w (BC p l.length (.slice (some ⟨g, 0, none⟩) 1024 c) ws)) :
    Calls Tryz.prog 186 #[.pointer (some ⟨p, 0, none⟩), .int .u16 (x : Int)] w fun ed w' => AddPost l x (x + 1) (foot (BC p l.length (.slice (some ⟨g, 0, none⟩) 1024 c) ws)) w ed w' := by
  have hsl : Rising l := by rw [← hx0]; exact rest_sorted _
  have hbl : ∀ y ∈ l, y < 65536 := by rw [← hx0]; exact rest_lt _
  have hs2 := addS_sorted hsl (Nat.le_succ x)
  have hb2 := addS_lt hbl (Nat.le_succ x) (show x + 1 ≤ 65536 by omega)
  have hmore : l.length ≤ (addS l x (x + 1)).length := sorted_sub hsl hs2 (fun y hy => (addS_mem (Nat.le_succ x) y).2 (.inl hy))
  have hmax := sorted_count hs2 65536 hb2
  have IA := Lib.hid (bcIadd_any p g c ws l x w hl hb hx0 hx h)
  have NR := Lib.hid (show ∀ W : World, Calls Tryz.prog 44 #[.int .u16 0, .int .u16 65535] W fun ed w' => ∃ p v, ed = .returned (.pointer (some ⟨p, 0, none⟩)) ∧ SS W [] w' (RC p v [(0, 65535)]) from fun W => newRun_any 0 65535 W (by omega) (by omega))
  have HF := Lib.hid (fun (hn : (addS l x (x + 1)).length = 65536) => full_list hs2 hb2 hn)
  have HR : Hid (RgOK 65536 [(0, 65535)]) := Lib.hid ⟨by intro r hr; simp at hr; subst hr; exact ⟨by decide, by decide⟩, by simp⟩
  unfold AddPost
  generalize foot (BC p l.length (.slice (some ⟨g, 0, none⟩) 1024 c) ws) = F at *
  clear h hb hx0 hsl hbl hs2 hb2
  generalize hm : (addS l x (x + 1)).length = m at *
  have Hm := Lib.hid hm
  clear hm
  by_cases hc : m = 65536
  · subst hc
    go_enter Tryz.func186, Tryz.ntmps186
    go_wp2_with (first
      | (go_at_call 35; (with_reducible refine IA.out.mono ?_); rintro ed w1 ⟨b, ws', rfl, s1, s2, s3, s4⟩; have S4 := Lib.hid s4; have k0 := s4.cell 0 rfl 0 rfl; have FU := Lib.hid (isFull_any p 65536 w1 k0); clear s1 s2 s3 s4)
      | (go_at_call 196; (with_reducible refine FU.out.mono ?_); rintro ed w2 ⟨rfl, rfl⟩)
      | (go_at_call 44; (with_reducible refine (NR.out _).mono ?_); rintro ed w3 ⟨q, v, rfl, hS⟩; have S5 := Lib.hid (SS.join S4.out hS); clear hS)
      | fail)
    go_ret
    exact ⟨_, _, 2, _, rfl, KC.run q v _ _ HR.out (by simp) (HF.out (by first | exact Hm.out | trivial)), S5.out.left⟩
  · have i1 : ((m : Int) == 65536) = false := by rw [beq_eq_false_iff_ne]; omega
    have i2 : ¬ (m : Int) = 65536 := by omega
    go_enter Tryz.func186, Tryz.ntmps186
    go_wp2_with (first
      | (go_at_call 35; (with_reducible refine IA.out.mono ?_); rintro ed w1 ⟨b, ws', rfl, s1, s2, s3, s4⟩; have S4 := Lib.hid s4; have k0 := s4.cell 0 rfl 0 rfl; have FU := Lib.hid (isFull_any p m w1 k0); have T1 := Lib.hid s1; have T2 := Lib.hid s2; have T3 := Lib.hid s3; clear s1 s2 s3 s4)
      | (go_at_call 196; (with_reducible refine FU.out.mono ?_); rintro ed w2 ⟨rfl, rfl⟩)
      | fail)
    go_ret
    have S5 := S4.out
    rw [← Hm.out] at S5
    exact ⟨_, _, 1, _, rfl, KC.bmp p g c ws' _ T1.out T2.out (by rw [Hm.out]; omega) T3.out, S5⟩
end Go.Proofs

namespace Go.Proofs
open Go.RowKit Go.Roar

theorem toBits_add {q g n x : Nat} {v l : List Nat} {w w1 : World} (hs : Rising l) (hb : ∀ y ∈ l, y < 65536) (hn : l.length = n) (hx : x < 65536) (t1 : Blk w1 q 108 [.int .i64 (n : Int), .slice (some ⟨g, 0, none⟩) 1024 1024]) (t2 : WV w1 g 1024 v) (t3 : ∀ x, bitOf v x = decide (x ∈ l)) (t4 : Mild w w1) (t5 : w.heap.size ≤ q) (t6 : w.heap.size ≤ g) (t7 : q ≠ g) :
    Calls Tryz.prog 35 #[.pointer (some ⟨q, 0, none⟩), .int .u16 (x : Int)] w1 fun ed w' => ∃ b ws', ed = .returned (.bool b) ∧ ws'.length = 1024 ∧ (∀ y ∈ ws', y < 18446744073709551616) ∧ restFrom (bitOf ws') 0 = addS l x (x + 1) ∧
      SS w [] w' (BC q (addS l x (x + 1)).length (.slice (some ⟨g, 0, none⟩) 1024 1024) ws') := by
  subst hn
  have hP : Parts w1 (BC q l.length (.slice (some ⟨g, 0, none⟩) 1024 1024) v) := ⟨fun A hA => by
      simp only [BC, List.mem_cons, List.not_mem_nil, or_false] at hA
      rcases hA with rfl | rfl
      · exact t1
      · exact t2.2.2, by simp [BC, B, O]; exact t7⟩
  refine (bcIadd_any q g 1024 v l x w1 t2.1 t2.2.1 (bits_nums hs hb t3) hx hP).mono ?_
  rintro ed w' ⟨b, ws', rfl, s1, s2, s3, s4⟩
  have S0 : SS w [] w1 (BC q l.length (.slice (some ⟨g, 0, none⟩) 1024 1024) v) := ⟨hP, fun b hb => .inr (by
      simp only [BC, B, O, foot_cons, foot_nil, List.append_nil, List.cons_append, List.nil_append, List.mem_cons, blkOf_some, List.not_mem_nil, or_false] at hb
      rcases hb with rfl | rfl <;> assumption), t4.mono (fun _ _ h => absurd h id)⟩
  have S1 := SS.step (R := []) S0 (by rw [List.append_nil]) s4
  rw [List.append_nil] at S1
  exact ⟨b, ws', rfl, s1, s2, s3, S1⟩

set_option maxRecDepth 100000 in
set_option maxHeartbeats 4000000 in
theorem acOne_any (p : Nat) (v : Value) (l : List Nat) (x : Nat) (w : World) (hs : Rising l) (hb : ∀ y ∈ l, y < 65536) (hl : l.length ≤ 4096) (hx : x < 65536) (h : Parts w (AC p v l)) :
    Calls Tryz.prog 27 #[.pointer (some ⟨p, 0, none⟩), .int .u16 (x : Int)] w fun ed w' => AddPost l x (x + 1) (foot (AC p v l)) w ed w' := by
  obtain ⟨iU, zu1, zu2, zu3, zu4⟩ := info_parts infoU16
  have ho : Own w 1 51 v l.length (u16s l) := h.all (O 1 51 v l.length (u16s l)) (by simp [AC])
  have S0 := SS.init h
  have C1 := Lib.hid (bs_own v l x w hs hb (by omega) hx ho)
  obtain ⟨A, c, hv, hA⟩ := Own.sliceOf ho
  subst hv
  generalize foot (AC p (.slice A l.length c) l) = F at *
  have HS0 := Lib.hid S0
  have hP := h
  simp only [AC] at S0
  have c0 := S0.cell 0 rfl 0 rfl
  have f0 := S0.free 0 rfl 0
  have hlb := lb_le l x
  have hml := mem_lb (x := x) hs
  have hrl := bsOf_not (l := l) (k := x)
  have hry : x ∈ l → bsOf l x = (lb l x : Int) := fun hm => by unfold bsOf; rw [if_pos (hml.1 hm)]
  have HIN := Lib.hid (fun (hm : x ∉ l) => addS_one_ins hs (fun e => hm (hml.2 e)))
  have HSAME := Lib.hid (fun (hm : x ∈ l) => addS_one_mem hs hm)
  have HEND := Lib.hid (fun (hm : ∀ y, l[l.length - 1]? = some y → y < x) => addS_one_end hs hm)
  have HNO := Lib.hid (fun (hm : x ∉ l) => hrl (fun e => hm (hml.2 e)))
  have HYES := Lib.hid hry
  have HLEN := Lib.hid (fun (hm : x ∉ l) => addS_one_new hs hm)
  have HOK := Lib.hid (And.intro (addS_sorted hs (Nat.le_succ x)) (And.intro (addS_lt hb (Nat.le_succ x) (by omega)) (addS_ne (l := l) (Nat.lt_succ_self x))))
  have HTB := Lib.hid (fun (g : Nat) (hAg : A = some ⟨g, 0, none⟩) => show Calls Tryz.prog 34 #[.pointer (some ⟨p, 0, none⟩)] w fun ed w' => _ from
    toBitmap_any p g l.length c l w (hAg ▸ h.all (B p 81 [.slice A l.length c]) (by simp [AC])) (hAg ▸ ho) hb (by omega))
  have HRAW := Lib.hid (And.intro hs hb)
  have Hml := Lib.hid hml
  clear hml hrl hry h hb
  by_cases hn0 : l.length = 0
  · have hmx : x ∉ l := by rw [List.length_eq_zero_iff.1 hn0]; simp
    rw [HNO.out hmx] at C1
    obtain ⟨i, hi⟩ : ∃ i, i = lb l x := ⟨_, rfl⟩
    have Hi := Lib.hid hi.symm
    rw [← hi] at C1 hlb
    generalize hn : l.length = n at *
    have Hn := Lib.hid hn
    clear hn hi ho hA hP
    have i0 : ¬ (0 : Int) < (n : Int) := by omega
    have i9 : ¬ (4096 : Int) ≤ (n : Int) := by omega
    have z9 : n < 4096 := by omega
    have q1 : IntKind.i64.wrap ((i : Int) + 1) = (i : Int) + 1 := IntWalk.i64_in _ (by omega)
    have q2 : (0 : Int) ≤ (i : Int) + 1 := by omega
    have q3 : ((i : Int) + 1).toNat = i + 1 := by omega
    clear hn0
    go_enter Tryz.func27, Tryz.ntmps27
    go_wp2_with (first
      | (go_at_call 33; refine C1.out.mono ?_; rintro ed w' ⟨rfl, rfl⟩)
      | (at_builtin; refine wpList_append_ss rfl (.tmp 73) (.tmp 74) 53 rfl 51 iU (.int .u16 0) 1 2 undU16s zu1 zu2 zu3 zu4 rfl (by decide) w F [B p 81 [.slice A n c]] [] (.slice A n c) n (u16s l) rfl (S0.alloc _) ⟨w.heap.size, 0, none⟩ 1 1 [Value.int IntKind.u16 (0 : Int)] rfl rfl (new_one _ _ _ _ rfl) (one_one rfl) (by unfold maxLen; omega) (by omega) ?_; intro v1 w1 S1; obtain ⟨g1, m1, rfl, l1, l1'⟩ := Own.shape (S1.get (A := O 1 51 v1 (n + 1) (u16s l ++ [Value.int IntKind.u16 (0 : Int)])) (by simp)) (by omega); have s1 := fun (W : World) => run_slice_from (P := Tryz.prog) W undU16s szU16 g1 0 (n + 1) m1 (i + 1) .i64 ((i : Int) + 1) (by omega) (by omega); have s2 := fun (W : World) => run_slice_from (P := Tryz.prog) W undU16s szU16 g1 0 (n + 1) m1 i .i64 (i : Int) rfl (by omega); have f10 := S1.cell 0 rfl 0 rfl; have S1' := Lib.hid S1; clear S1 S0 c0 f0)
      | (refine wpList_copy_ss rfl (.tmp 79) (.tmp 82) 53 53 rfl 51 1 undU16s szU16 w F [B p 81 [.slice A n c]] [] g1 (n + 1) m1 (u16s l ++ [Value.int IntKind.u16 (0 : Int)]) S1'.out.drew (some (tlA g1 0 (i + 1) m1 1)) (some (tlA g1 0 i m1 1)) (n - i) (m1 - (i + 1)) (n + 1 - i) (m1 - i) ?_ ?_ (i + 1) (n - i) ((u16s l).drop i) ?_ ?_ ?_ ?_ ?_ ?_; rfl; rfl; exact (Nat.min_eq_right (by omega)).symm; simp [Hn.out]; exact (fun h0 => ⟨tl_some1 (by omega), _, rfl, Own.src (S1'.out.drew.get (A := O 1 51 (.slice (some ⟨g1, 0, none⟩) (n + 1) m1) (n + 1) (u16s l ++ [Value.int IntKind.u16 (0 : Int)])) (by simp)) i 1 (by omega) _ (drop_src _)⟩); (simp [Hn.out]; omega); exact (fun v hv => u16s_one l v (List.mem_of_mem_drop hv)); intro w2 S2; have f20 := S2.cell 0 rfl 0 rfl; have S3 := SS.storeO (L := [B p 81 [.slice A n c]]) (R := []) S2 i (by simp [splice, Hn.out]; omega) (.int .u16 (x : Int)); have f30 := S3.cell 0 rfl 0 rfl; have f31 := S3.free 0 rfl 0; have f21 := (Own.cellAt (S2.get (A := O 1 51 (.slice (some ⟨g1, 0, none⟩) (n + 1) m1) (n + 1) (splice (u16s l ++ [Value.int IntKind.u16 (0 : Int)]) (i + 1) ((u16s l).drop i))) (by simp)) (List.getElem?_eq_getElem (show i < _ by simp [splice, Hn.out]; omega))); have S4 := SS.store (L := []) S3 0 (.slice (some ⟨g1, 0, none⟩) (n + 1) m1); have S4' := Lib.hid S4; clear S2 S3 S4)
      | (refine wp_region_tail 7 (by kernel_rfl) (by decide +kernel) ?_; simp only [List.take_succ_cons, List.take_zero, List.drop_succ_cons, List.drop_zero]; repeat still_step; try (refine wpStill_nil ?_; show wpList _ _ _ _ _ _))
      | fail)
    go_ret
    have e1 : ((splice (u16s l ++ [Value.int IntKind.u16 (0 : Int)]) (i + 1) ((u16s l).drop i)).set i (Value.int IntKind.u16 (x : Int))) = u16s (addS l x (x + 1)) := by
      have := ins_made (u16s l) i (.int .u16 (x : Int)) (.int .u16 (0 : Int)) [] (by simp [Hn.out]; omega)
      rw [HIN.out hmx, Hi.out]
      simpa [u16s_ins] using this
    have e2 := HLEN.out hmx
    have S5 := S4'.out
    rw [List.nil_append, e1] at S5
    have hL : ([B p 81 [.slice (some ⟨g1, 0, none⟩) (n + 1) m1], O 1 51 (.slice (some ⟨g1, 0, none⟩) (n + 1) m1) (n + 1) (u16s (addS l x (x + 1)))] : List HA) = AC p (.slice (some ⟨g1, 0, none⟩) (n + 1) m1) (addS l x (x + 1)) := by
      unfold AC
      rw [e2]
    exact ⟨_, _, 0, _, rfl, KC.arr p (.slice (some ⟨g1, 0, none⟩) (n + 1) m1) _ HOK.out.1 HOK.out.2.1 HOK.out.2.2 (by rw [e2]; omega), by rw [← hL]; exact S5⟩
  · obtain ⟨g, rfl, -⟩ := hA (by omega)
    obtain ⟨y, hy⟩ : ∃ y, l[l.length - 1]? = some y := ⟨_, List.getElem?_eq_getElem (by omega)⟩
    have cy := (Own.cellAt ho (o := l.length - 1) (v := .int .u16 (y : Int)) (by simp [u16s, hy])).1
    obtain ⟨m, hm⟩ : ∃ m, m = l.length - 1 := ⟨_, rfl⟩
    rw [← hm] at cy
    have hyl : x ∈ l → x ≤ y := fun hmx => by
      obtain ⟨j, hj⟩ := List.getElem?_of_mem hmx
      have hj1 := (List.getElem?_eq_some_iff.1 hj).1
      rcases Nat.lt_or_ge j (l.length - 1) with h2 | h2
      · have := rising_lt hs _ _ _ _ h2 hj hy; omega
      · obtain rfl : j = l.length - 1 := by omega
        rw [hy] at hj; cases hj; exact Nat.le_refl _
    have hend : y < x → ∀ z, l[l.length - 1]? = some z → z < x := fun h z hz => by rw [hy] at hz; cases hz; exact h
    have HE := Lib.hid (fun (h : y < x) => HEND.out (hend h))
    obtain ⟨i, hi⟩ : ∃ i, i = lb l x := ⟨_, rfl⟩
    have Hi := Lib.hid hi.symm
    have HNO2 := Lib.hid (fun (hm : x ∉ l) => (HNO.out hm).trans (show - ((lb l x : Int) + 1) = - ((i : Int) + 1) by rw [hi]))
    have HYES2 := Lib.hid (fun (hm : x ∈ l) => (HYES.out hm).trans (show (lb l x : Int) = (i : Int) by rw [hi]))
    rw [← hi] at hlb
    generalize hbs : bsOf l x = bv at *
    generalize hn : l.length = n at *
    have Hn := Lib.hid hn
    have e1 : (n : Int) - 1 = (m : Int) := by omega
    have i0 : (0 : Int) < (n : Int) := by omega
    have i1 : (m : Int) < (n : Int) := by omega
    have q1 : IntKind.i64.wrap ((i : Int) + 1) = (i : Int) + 1 := IntWalk.i64_in _ (by omega)
    have q2 : (0 : Int) ≤ (i : Int) + 1 := by omega
    have q3 : ((i : Int) + 1).toNat = i + 1 := by omega
    have HTB2 := Lib.hid (HTB.out g rfl)
    clear hn hi hbs hy hend hA hm hn0 HTB HNO HYES HEND
    by_cases hbig : n = 4096
    · have HP := Lib.hid hP
      clear ho hP
      have Hbig := Lib.hid hbig
      have i2 : ¬ (n : Int) < 4096 := by omega
      have i3 : (4096 : Int) ≤ (n : Int) := by omega
      clear hbig
      by_cases hmx : x ∈ l
      · rw [HYES2.out hmx] at C1
        go_enter Tryz.func27, Tryz.ntmps27
        go_wp2_with (first
          | (go_at_call 33; refine C1.out.mono ?_; rintro ed w' ⟨rfl, rfl⟩)
          | fail)
        go_ret
        exact ⟨_, _, 0, _, rfl, KC.arr p (.slice (some ⟨g, 0, none⟩) n c) _ HOK.out.1 HOK.out.2.1 HOK.out.2.2 (by rw [HSAME.out hmx, Hn.out]; exact hl), by rw [HSAME.out hmx]; exact HS0.out⟩
      · rw [HNO2.out hmx] at C1
        have HLE := Lib.hid (HLEN.out hmx)
        go_enter Tryz.func27, Tryz.ntmps27
        go_wp2_with (first
          | (go_at_call 33; refine C1.out.mono ?_; rintro ed w' ⟨rfl, rfl⟩)
          | (go_at_call 34; (with_reducible refine HTB2.out.mono ?_); rintro ed w1 ⟨q, g2, vs, rfl, t1, t2, t3, t4, t5, t6, t7⟩; have BI := Lib.hid (toBits_add HRAW.out.1 HRAW.out.2 Hn.out hx t1 t2 t3 t4 t5 t6 t7); clear t1 t2 t3 t4 t5 t6 t7)
          | (go_at_call 35; (with_reducible refine BI.out.mono ?_); rintro ed w2 ⟨b, ws, rfl, s1, s2, s3, s4⟩; have T1 := Lib.hid s1; have T2 := Lib.hid s2; have T3 := Lib.hid s3; have T4 := Lib.hid s4; clear s1 s2 s3 s4)
          | fail)
        go_ret
        exact ⟨_, _, 1, _, rfl, KC.bmp q g2 1024 ws _ T1.out T2.out (by rw [HLE.out, Hbig.out]; omega) T3.out, T4.out.wide _⟩
    · have i2 : (n : Int) < 4096 := by omega
      have z9 : n < 4096 := by omega
      have i3 : ¬ (4096 : Int) ≤ (n : Int) := by omega
      clear hbig
      by_cases hyx : y < x
      · have i5 : (y : Int) < (x : Int) := by omega
        have HE2 := Lib.hid (HE.out hyx)
        clear ho hP
        go_enter Tryz.func27, Tryz.ntmps27
        go_wp2_with (first
          | (at_builtin; refine wpList_append_ss rfl (.tmp 37) (.tmp 39) 53 rfl 51 iU (.int .u16 0) 1 2 undU16s zu1 zu2 zu3 zu4 rfl (by decide) w F [B p 81 [.slice (some ⟨g, 0, none⟩) n c]] [] (.slice (some ⟨g, 0, none⟩) n c) n (u16s l) rfl (S0.alloc _) ⟨w.heap.size, 0, none⟩ 1 1 [Value.int IntKind.u16 (x : Int)] rfl rfl (new_one _ _ _ _ rfl) (one_one rfl) (by unfold maxLen; omega) (by omega) ?_; intro v1 w1 S1; obtain ⟨g1, m1, rfl, l1, l1'⟩ := Own.shape (S1.get (A := O 1 51 v1 (n + 1) (u16s l ++ [Value.int IntKind.u16 (x : Int)])) (by simp)) (by omega); have f10 := S1.cell 0 rfl 0 rfl; have f11 := S1.free 0 rfl 0; have S2 := Lib.hid (SS.store (L := []) S1 0 (.slice (some ⟨g1, 0, none⟩) (n + 1) m1)); clear S1)
          | fail)
        go_ret
        have S3 := S2.out
        have e4 : u16s l ++ [Value.int IntKind.u16 (x : Int)] = u16s (addS l x (x + 1)) := by rw [HE2.out]; simp [u16s]
        have e5 : (addS l x (x + 1)).length = n + 1 := by rw [HE2.out, List.length_append, Hn.out]; rfl
        rw [List.nil_append, e4] at S3
        have hL : ([B p 81 [.slice (some ⟨g1, 0, none⟩) (n + 1) m1], O 1 51 (.slice (some ⟨g1, 0, none⟩) (n + 1) m1) (n + 1) (u16s (addS l x (x + 1)))] : List HA) = AC p (.slice (some ⟨g1, 0, none⟩) (n + 1) m1) (addS l x (x + 1)) := by
          unfold AC
          rw [e5]
        exact ⟨_, _, 0, _, rfl, KC.arr p (.slice (some ⟨g1, 0, none⟩) (n + 1) m1) _ HOK.out.1 HOK.out.2.1 HOK.out.2.2 (by rw [e5]; omega), by rw [← hL]; exact S3⟩
      · have i5 : ¬ (y : Int) < (x : Int) := by omega
        clear ho hP
        by_cases hmx : x ∈ l
        · rw [HYES2.out hmx] at C1
          go_enter Tryz.func27, Tryz.ntmps27
          go_wp2_with (first
            | (go_at_call 33; refine C1.out.mono ?_; rintro ed w' ⟨rfl, rfl⟩)
            | fail)
          go_ret
          exact ⟨_, _, 0, _, rfl, KC.arr p (.slice (some ⟨g, 0, none⟩) n c) _ HOK.out.1 HOK.out.2.1 HOK.out.2.2 (by rw [HSAME.out hmx, Hn.out]; exact hl), by rw [HSAME.out hmx]; exact HS0.out⟩
        · rw [HNO2.out hmx] at C1
          go_enter Tryz.func27, Tryz.ntmps27
          go_wp2_with (first
            | (go_at_call 33; refine C1.out.mono ?_; rintro ed w' ⟨rfl, rfl⟩)
            | (at_builtin; refine wpList_append_ss rfl (.tmp 73) (.tmp 74) 53 rfl 51 iU (.int .u16 0) 1 2 undU16s zu1 zu2 zu3 zu4 rfl (by decide) w F [B p 81 [.slice (some ⟨g, 0, none⟩) n c]] [] (.slice (some ⟨g, 0, none⟩) n c) n (u16s l) rfl (S0.alloc _) ⟨w.heap.size, 0, none⟩ 1 1 [Value.int IntKind.u16 (0 : Int)] rfl rfl (new_one _ _ _ _ rfl) (one_one rfl) (by unfold maxLen; omega) (by omega) ?_; intro v1 w1 S1; obtain ⟨g1, m1, rfl, l1, l1'⟩ := Own.shape (S1.get (A := O 1 51 v1 (n + 1) (u16s l ++ [Value.int IntKind.u16 (0 : Int)])) (by simp)) (by omega); have s1 := fun (W : World) => run_slice_from (P := Tryz.prog) W undU16s szU16 g1 0 (n + 1) m1 (i + 1) .i64 ((i : Int) + 1) (by omega) (by omega); have s2 := fun (W : World) => run_slice_from (P := Tryz.prog) W undU16s szU16 g1 0 (n + 1) m1 i .i64 (i : Int) rfl (by omega); have f10 := S1.cell 0 rfl 0 rfl; have S1' := Lib.hid S1; clear S1 S0 c0 f0)
            | (refine wpList_copy_ss rfl (.tmp 79) (.tmp 82) 53 53 rfl 51 1 undU16s szU16 w F [B p 81 [.slice (some ⟨g, 0, none⟩) n c]] [] g1 (n + 1) m1 (u16s l ++ [Value.int IntKind.u16 (0 : Int)]) S1'.out.drew (some (tlA g1 0 (i + 1) m1 1)) (some (tlA g1 0 i m1 1)) (n - i) (m1 - (i + 1)) (n + 1 - i) (m1 - i) ?_ ?_ (i + 1) (n - i) ((u16s l).drop i) ?_ ?_ ?_ ?_ ?_ ?_; rfl; rfl; exact (Nat.min_eq_right (by omega)).symm; simp [Hn.out]; exact (fun h0 => ⟨tl_some1 (by omega), _, rfl, Own.src (S1'.out.drew.get (A := O 1 51 (.slice (some ⟨g1, 0, none⟩) (n + 1) m1) (n + 1) (u16s l ++ [Value.int IntKind.u16 (0 : Int)])) (by simp)) i 1 (by omega) _ (drop_src _)⟩); (simp [Hn.out]; omega); exact (fun v hv => u16s_one l v (List.mem_of_mem_drop hv)); intro w2 S2; have f20 := S2.cell 0 rfl 0 rfl; have S3 := SS.storeO (L := [B p 81 [.slice (some ⟨g, 0, none⟩) n c]]) (R := []) S2 i (by simp [splice, Hn.out]; omega) (.int .u16 (x : Int)); have f30 := S3.cell 0 rfl 0 rfl; have f31 := S3.free 0 rfl 0; have f21 := (Own.cellAt (S2.get (A := O 1 51 (.slice (some ⟨g1, 0, none⟩) (n + 1) m1) (n + 1) (splice (u16s l ++ [Value.int IntKind.u16 (0 : Int)]) (i + 1) ((u16s l).drop i))) (by simp)) (List.getElem?_eq_getElem (show i < _ by simp [splice, Hn.out]; omega))); have S4 := SS.store (L := []) S3 0 (.slice (some ⟨g1, 0, none⟩) (n + 1) m1); have S4' := Lib.hid S4; clear S2 S3 S4)
            | (refine wp_region_tail 7 (by kernel_rfl) (by decide +kernel) ?_; simp only [List.take_succ_cons, List.take_zero, List.drop_succ_cons, List.drop_zero]; repeat still_step; try (refine wpStill_nil ?_; show wpList _ _ _ _ _ _))
            | fail)
          go_ret
          have e1 : ((splice (u16s l ++ [Value.int IntKind.u16 (0 : Int)]) (i + 1) ((u16s l).drop i)).set i (Value.int IntKind.u16 (x : Int))) = u16s (addS l x (x + 1)) := by
            have := ins_made (u16s l) i (.int .u16 (x : Int)) (.int .u16 (0 : Int)) [] (by simp [Hn.out]; omega)
            rw [HIN.out hmx, Hi.out]
            simpa [u16s_ins] using this
          have e2 := HLEN.out hmx
          have S5 := S4'.out
          rw [List.nil_append, e1] at S5
          have hL : ([B p 81 [.slice (some ⟨g1, 0, none⟩) (n + 1) m1], O 1 51 (.slice (some ⟨g1, 0, none⟩) (n + 1) m1) (n + 1) (u16s (addS l x (x + 1)))] : List HA) = AC p (.slice (some ⟨g1, 0, none⟩) (n + 1) m1) (addS l x (x + 1)) := by
            unfold AC
            rw [e2]
          exact ⟨_, _, 0, _, rfl, KC.arr p (.slice (some ⟨g1, 0, none⟩) (n + 1) m1) _ HOK.out.1 HOK.out.2.1 HOK.out.2.2 (by rw [e2]; omega), by rw [← hL]; exact S5⟩
end Go.Proofs
