/-
  runContainer16.Add: the walks in the middle: two runs are joined; the number stands alone between two runs.
  runContainer16.Add: the walk where two runs are joined.
  runContainer16.Add, iaddReturnMinimized: all ways of adding one number to runs.
-/
import Derived.Test.YtgohhikcmajmoaaGreatDoorJOnr
import Derived.Deep.RegionHeld3
namespace Go.Roar
open Go.RowKit Go.Proofs
theorem ivs_src2 {w : World} {rs : List (Nat × Nat)} {g n c k : Nat} (hn : rs.length = n) (hk : k ≤ n) (hc : n ≤ c) (h : Own w 2 115 (.slice (some ⟨g, 0, none⟩) n c) n (ivs rs)) :
    ∀ (j : Nat) (u : Value), (ivs (rs.drop k))[j]? = some u → w.cell? ((tlA g 0 k c 2).add j) = some u := by
  rcases Nat.lt_or_ge k n with hlt | hge
  · exact ivs_src (by omega) (by omega) (fun i r hr => ⟨(Own.cellAt h (ivs_at hr).1).1, (Own.cellAt h (ivs_at hr).2).1⟩)
  · intro j u hj
    rw [List.drop_eq_nil_of_le (by omega)] at hj
    simp [ivs] at hj
theorem one_two {a b : Int} {l : List Value} (h : ∀ u ∈ l, u.oneCell' = true) : ∀ u ∈ [.int .u16 a, .int .u16 b] ++ l, u.oneCell' = true := by
  intro u hu
  rcases List.mem_append.1 hu with hu | hu
  · simp at hu; rcases hu with rfl | rfl <;> rfl
  · exact h u hu
theorem set_split {rs : List (Nat × Nat)} {m : Nat} (r : Nat × Nat) (hm : m < rs.length) : (rs.set m r).take (m + 1) ++ (rs.set m r).drop (m + 2) = rs.take m ++ r :: rs.drop (m + 2) := by
  have hl : (rs.take m).length = m := by simp; omega
  have e1 : (rs.set m r).take (m + 1) = rs.take m ++ [r] := by
    rw [← mid_set r hm, List.take_append, hl, show m + 1 - m = 1 by omega, List.take_of_length_le (by omega)]
    simp
  have e2 : (rs.set m r).drop (m + 2) = rs.drop (m + 2) := by
    rw [← mid_set r hm, List.drop_append, hl, show m + 2 - m = 2 by omega, List.drop_of_length_le (by omega)]
    simp
  rw [e1, e2, List.append_assoc]
  rfl
end Go.Roar
namespace Go.Proofs
open Go.RowKit Go.Roar
attribute [local go_sem ↓] Go.wp_at_zero Go.wp_at_succ

set_option maxRecDepth 100000 in
set_option maxHeartbeats 4000000 in
theorem rcAdd_MA (p : Nat) (v : Value) (rs : List (Nat × Nat)) (x m s e s2 e2 : Nat) (w : World) (hr : RgOK 65536 rs) (hx : x < 65536) (h : Parts w (RC p v rs)) (h1 : rs[m]? = some (s, e)) (h2 : rs[m + 1]? = some (s2, e2)) (he : e + 1 < x) (hs2 : x + 1 < s2) :
    Calls Tryz.prog 278 #[.pointer (some ⟨p, 0, none⟩), .int .u16 (x : Int)] w fun ed w' => OneR rs x p (foot (RC p v rs)) w ed w' := by
  obtain ⟨iU, zv1, zv2, zv3, zv4⟩ := info_parts infoIv
  have h0 : rs ≠ [] := by rintro rfl; simp at h1
  have hse := runs_one hr h1
  have hse2 := runs_one hr h2
  simp only at hse hse2
  have hk2 := (List.getElem?_eq_some_iff.1 h2).1
  have SE := Lib.hid (searchNo (J := (m : Int)) h hr h0 hx (j := m + 1) ⟨Nat.zero_le _, by omega, fun i r _ hi hq => by
      rcases Nat.lt_or_ge i m with h3 | h3
      · have := runs_two hr h3 hq h1; simp only at this; omega
      · obtain rfl : i = m := by omega
        rw [h1] at hq; cases hq; show e < x; omega, fun r hq => by rw [h2] at hq; cases hq; show x ≤ e2; omega⟩ (fun r hq => by rw [h2] at hq; cases hq; show x < s2; omega) (by omega))
  have HX := Lib.hid (add_alone (k := m + 1) hr (by omega) hx (fun r hq _ => by rw [Nat.add_sub_cancel, h1] at hq; cases hq; exact he) (fun r hq => by rw [h2] at hq; cases hq; exact hs2))
  have LA := Lib.hid (fun (W : World) => last_r (s, e) W hse)
  have NI := Lib.hid (fun (W : World) => newOne_any x W hx)
  obtain ⟨g, c, rfl, hc1, hc2⟩ := RCn.of h h0
  have S0 := SS.init h
  have hmany := hr.many
  generalize hF : foot (RC p (.slice (some ⟨g, 0, none⟩) rs.length c) rs) = F at *
  rw [← RCn.eq p g rs.length c rfl] at S0
  have HS0 := Lib.hid S0
  clear hF h S0 hr
  have H1 := Lib.hid h1
  have H2 := Lib.hid h2
  generalize hn : rs.length = n at *
  have Hn := Lib.hid hn
  obtain ⟨j, hj⟩ : ∃ j, j = m + 1 := ⟨_, rfl⟩
  have e1 : (m : Int) + 1 = (j : Int) := by omega
  have i1 : ((m : Int) == -1) = false := by rw [beq_eq_false_iff_ne]; omega
  have i2 : ¬ (m : Int) = -1 := by omega
  have i3 : (m : Int) < (n : Int) := by omega
  have i5 : (j : Int) < (n : Int) := by omega
  have i6 : ¬ ((n : Int) - 1 ≤ (m : Int)) := by omega
  have i4 : ((e : Int) + 1 == (x : Int)) = false := by rw [beq_eq_false_iff_ne]; omega
  have i9 : ¬ (e : Int) + 1 = (x : Int) := by omega
  have i7 : ((s2 : Int) == (x : Int) + 1) = false := by rw [beq_eq_false_iff_ne]; omega
  have i8 : ¬ (s2 : Int) = (x : Int) + 1 := by omega
  have hjn : j ≤ n := by omega
  have hjc : j ≤ c := by omega
  have y1 : s2 < 65536 := by omega
  have y2 : e < 65536 := by omega
  rw [← hj] at H2 HX
  have s1 := fun (W : World) => run_slice_from (P := Tryz.prog) W undIvs szIv g 0 n c j .i64 (j : Int) rfl hjn
  have s3 := fun (W : World) => run_slice_to (P := Tryz.prog) W undIvs szIv (some ⟨g, 0, none⟩) n c j .i64 (j : Int) rfl hjc
  clear hn h1 hse he h2 hse2 hs2 hj hk2
  go_enter Tryz.func278, Tryz.ntmps278
  go_upto_region 26 with (first
    | (go_at_call 282; (with_reducible refine SE.out.mono ?_); rintro ed w1 ⟨z, rfl, k1⟩; have S1 := HS0.out.quiet k1; have a0 := S1.cell 0 rfl 0 rfl; have b0 := (RCn.iv S1 H1.out).1.1; have b1 := (RCn.iv S1 H1.out).2.1; have HS1 := Lib.hid S1; clear S1)
    | (go_at_call 63; (with_reducible refine (LA.out _).mono ?_); rintro ed w2 ⟨rfl, k2⟩; have S2 := HS1.out.quiet k2; have c0 := S2.cell 0 rfl 0 rfl; have d0 := (RCn.iv S2 H1.out).1.1; have d1 := (RCn.iv S2 H1.out).2.1; have d2 := (RCn.iv S2 H2.out).1.1; have HS2 := Lib.hid S2; clear S2 HS1)
    | (go_at_call 63; (with_reducible refine (LA.out _).mono ?_); rintro ed w3 ⟨rfl, k3⟩; have S3 := HS2.out.quiet k3; have f0 := S3.cell 0 rfl 0 rfl; have f1 := S3.free 0 rfl 0; have f2 := (RCn.iv S3 H2.out).1.1; have HS3 := Lib.hid S3; clear S3)
    | fail)
  go_region_law (first
    | (go_simp; go_at_call 51; refine (NI.out _).mono ?_; rintro ed w4 ⟨rfl, hk⟩; have S4 := HS3.out.drew.quiet hk; have g2 := S4.cell 0 rfl 0 rfl; have g6 := (S4.alloc (.cells #[.int .u16 (x : Int), .int .u16 0] 115)).cell 0 rfl 0 rfl; have T4 := Lib.hid (S4.newO 115 (.int .u16 (x : Int)) (.int .u16 0)))
    | (refine step_of_list rfl ?_; intro Q9 hQ9; refine wpList_append_ss rfl (.tmp 240) (.tmp 246) 111 rfl 115 iU (.agg #[.int .u16 (0 : Int), .int .u16 (0 : Int)]) 2 4 undIvs zv1 zv2 zv3 zv4 rfl (by decide) w F [] [B p 113 [.slice (some ⟨g, 0, none⟩) n c], O 2 115 (.slice (some ⟨g, 0, none⟩) n c) n (ivs rs)] (.slice (some ⟨w4.heap.size, 0, none⟩) 1 1) 1 [.int .u16 (x : Int), .int .u16 0] rfl T4.out (tlA g 0 j c 2) (n - j) (c - j) (ivs (rs.drop j)) rfl (by rw [ivs_length, List.length_drop, Hn.out]) (ivs_src2 Hn.out hjn hc1 (T4.out.get (A := O 2 115 (.slice (some ⟨g, 0, none⟩) n c) n (ivs rs)) (by simp [RCn]))) (ivs_one _) (by unfold maxLen; omega) (by omega) ?_; intro v5 w5 S5; refine hQ9 _ _ ?_; clear hQ9 Q9; obtain ⟨g5, c5, rfl, _, _⟩ := Own.shape (S5.get (A := O 2 115 v5 (1 + (n - j)) ([.int .u16 (x : Int), .int .u16 0] ++ ivs (rs.drop j))) (by simp)) (by omega); have r4 := S5.cell 1 rfl 0 rfl; have r5 := S5.free 1 rfl 0; have HS5 := Lib.hid S5; clear S5))
  all_goals
    obtain ⟨ys, -, -, hy3, S6⟩ := SS.reslice (L := [O 2 115 (.slice (some ⟨g5, 0, none⟩) (1 + (n - j)) c5) (1 + (n - j)) ([.int .u16 (x : Int), .int .u16 0] ++ ivs (rs.drop j)), B p 113 [.slice (some ⟨g, 0, none⟩) n c]]) (R := []) (m := j) HS5.out hjc
    have Hy := Lib.hid (hy3 hjn)
    have HS6 := Lib.hid S6
    clear S6 hy3
    go_wp2_with (first
      | (at_builtin; refine wpList_append_ss rfl (.tmp 255) (.tmp 256) 111 rfl 115 iU (.agg #[.int .u16 (0 : Int), .int .u16 (0 : Int)]) 2 4 undIvs zv1 zv2 zv3 zv4 rfl (by decide) w F [O 2 115 (.slice (some ⟨g5, 0, none⟩) (1 + (n - j)) c5) (1 + (n - j)) ([.int .u16 (x : Int), .int .u16 0] ++ ivs (rs.drop j)), B p 113 [.slice (some ⟨g, 0, none⟩) n c]] [] (.slice (some ⟨g, 0, none⟩) j c) j ys rfl HS6.out ⟨g5, 0, none⟩ (1 + (n - j)) c5 ([.int .u16 (x : Int), .int .u16 0] ++ ivs (rs.drop j)) rfl (by rw [List.length_append, ivs_length, List.length_drop, Hn.out, Nat.add_mul]; rfl) (Own.src0 (HS6.out.get (A := O 2 115 (.slice (some ⟨g5, 0, none⟩) (1 + (n - j)) c5) (1 + (n - j)) ([.int .u16 (x : Int), .int .u16 0] ++ ivs (rs.drop j))) (by simp)) _ (fun _ _ h => h)) (one_two (ivs_one _)) (by unfold maxLen; omega) (by omega) ?_; intro v7 w7 S7; obtain ⟨g7, c7, rfl, _, _⟩ := Own.shape (S7.get (A := O 2 115 v7 (j + (1 + (n - j))) (ys ++ ([.int .u16 (x : Int), .int .u16 0] ++ ivs (rs.drop j)))) (by simp)) (by omega); have r6 := S7.cell 1 rfl 0 rfl; have r7 := S7.free 1 rfl 0; have S8 := Lib.hid (SS.store (L := [O 2 115 (.slice (some ⟨g5, 0, none⟩) (1 + (n - j)) c5) (1 + (n - j)) ([.int .u16 (x : Int), .int .u16 0] ++ ivs (rs.drop j))]) S7 0 (.slice (some ⟨g7, 0, none⟩) (j + (1 + (n - j))) c7)); clear S7)
      | fail)
    go_ret
    have S9 := S8.out
    have e6 : ys ++ ([.int .u16 (x : Int), .int .u16 0] ++ ivs (rs.drop j)) = ivs (rs.take j ++ (x, x) :: rs.drop j) := by rw [Hy.out, ivs_take2, ivs_app, ivs_cons]; simp
    rw [e6] at S9
    exact OneR.done (by simp [Hn.out]; omega) (by omega) (by rw [Hn.out]; omega) HX.out (SS.right (L := [O 2 115 (.slice (some ⟨g5, 0, none⟩) (1 + (n - j)) c5) (1 + (n - j)) ([.int .u16 (x : Int), .int .u16 0] ++ ivs (rs.drop j))]) (M := RCn p g7 (j + (1 + (n - j))) c7 (rs.take j ++ (x, x) :: rs.drop j)) S9)
end Go.Proofs

namespace Go.Roar
open Go.RowKit Go.Proofs
theorem RCn.at4 {w0 w : World} {F : List Nat} {p g n c m j s e s2 e2 : Nat} {rs : List (Nat × Nat)} (S : SS w0 F w (RCn p g n c rs)) (h1 : rs[m]? = some (s, e)) (h2 : rs[j]? = some (s2, e2)) :
    w.cell? ⟨p, 0, none⟩ = some (.slice (some ⟨g, 0, none⟩) n c) ∧ w.cell? ⟨g, m * 2, none⟩ = some (.int .u16 (s : Int)) ∧ w.cell? ⟨g, j * 2, none⟩ = some (.int .u16 (s2 : Int)) ∧ w.cell? ⟨g, j * 2 + 1, none⟩ = some (.int .u16 ((e2 - s2 : Nat) : Int)) :=
  ⟨S.cell 0 rfl 0 rfl, (RCn.iv S h1).1.1, (RCn.iv S h2).1.1, (RCn.iv S h2).2.1⟩
end Go.Roar
namespace Go.Proofs
open Go.RowKit Go.Roar
attribute [local go_sem ↓] Go.wp_at_zero Go.wp_at_succ

set_option maxRecDepth 100000 in
set_option maxHeartbeats 4000000 in
theorem rcAdd_MB (p : Nat) (v : Value) (rs : List (Nat × Nat)) (x m s e s2 e2 : Nat) (w : World) (hr : RgOK 65536 rs) (hx : x < 65536) (h : Parts w (RC p v rs)) (h1 : rs[m]? = some (s, e)) (h2 : rs[m + 1]? = some (s2, e2)) (he : e + 1 = x) (hs2 : x + 1 = s2) :
    Calls Tryz.prog 278 #[.pointer (some ⟨p, 0, none⟩), .int .u16 (x : Int)] w fun ed w' => OneR rs x p (foot (RC p v rs)) w ed w' := by
  obtain ⟨iU, zv1, zv2, zv3, zv4⟩ := info_parts infoIv
  have h0 : rs ≠ [] := by rintro rfl; simp at h1
  have hse := runs_one hr h1
  have hse2 := runs_one hr h2
  simp only at hse hse2
  have hk2 := (List.getElem?_eq_some_iff.1 h2).1
  have SE := Lib.hid (searchNo (J := (m : Int)) h hr h0 hx (j := m + 1) ⟨Nat.zero_le _, by omega, fun i r _ hi hq => by
      rcases Nat.lt_or_ge i m with h3 | h3
      · have := runs_two hr h3 hq h1; simp only at this; omega
      · obtain rfl : i = m := by omega
        rw [h1] at hq; cases hq; show e < x; omega, fun r hq => by rw [h2] at hq; cases hq; show x ≤ e2; omega⟩ (fun r hq => by rw [h2] at hq; cases hq; show x < s2; omega) (by omega))
  have HX := Lib.hid (add_both hr h1 h2 he hs2)
  have LA := Lib.hid (fun (W : World) => last_r (s, e) W hse)
  have LB := Lib.hid (fun (W : World) => last_r (s2, e2) W hse2)
  obtain ⟨g, c, rfl, hc1, hc2⟩ := RCn.of h h0
  have S0 := SS.init h
  have hmany := hr.many
  generalize hF : foot (RC p (.slice (some ⟨g, 0, none⟩) rs.length c) rs) = F at *
  rw [← RCn.eq p g rs.length c rfl] at S0
  have HS0 := Lib.hid S0
  have HSP := Lib.hid (set_split (rs := rs) (s, e2) (show m < rs.length by omega))
  clear hF h S0 hr
  have H1 := Lib.hid h1
  have H2 := Lib.hid h2
  generalize hn : rs.length = n at *
  have Hn := Lib.hid hn
  obtain ⟨j, hj⟩ : ∃ j, j = m + 1 := ⟨_, rfl⟩
  have e1 : (m : Int) + 1 = (j : Int) := by omega
  have i1 : ((m : Int) == -1) = false := by rw [beq_eq_false_iff_ne]; omega
  have i2 : ¬ (m : Int) = -1 := by omega
  have i3 : (m : Int) < (n : Int) := by omega
  have i5 : (j : Int) < (n : Int) := by omega
  have i6 : ¬ ((n : Int) - 1 ≤ (m : Int)) := by omega
  have i4 : (e : Int) + 1 = (x : Int) := by omega
  have i7 : (s2 : Int) = (x : Int) + 1 := by omega
  have I7 := Lib.hid i7
  have q3 : IntKind.u16.wrap ((e2 : Int) - (s : Int)) = ((e2 - s : Nat) : Int) := by rw [IntWalk.u16_in _ (by omega)]; omega
  have q5 : IntKind.i64.wrap (j : Int) = (j : Int) := IntWalk.i64_in _ (by omega)
  have q4 : IntKind.i64.wrap ((j : Int) + 1) = (j : Int) + 1 := IntWalk.i64_in _ (by omega)
  have hjn : j + 1 ≤ n := by omega
  have hjc : j ≤ c := by omega
  have y1 : s2 < 65536 := by omega
  have y2 : e < 65536 := by omega
  have y3 : e2 < 65536 := by omega
  have Hj := Lib.hid hj
  rw [← hj] at H2
  have M1 : Hid ((rs.set m (s, e2))[m]? = some (s, e2)) := Lib.hid (List.getElem?_set_self (by omega))
  have M2 : Hid ((rs.set m (s, e2))[j]? = some (s2, e2)) := Lib.hid (by rw [List.getElem?_set_ne (by omega)]; exact H2.out)
  have s1 := fun (W : World) => run_slice_from (P := Tryz.prog) W undIvs szIv g 0 n c (j + 1) .i64 ((j : Int) + 1) (by omega) hjn
  have s3 := fun (W : World) => run_slice_to (P := Tryz.prog) W undIvs szIv (some ⟨g, 0, none⟩) n c j .i64 (j : Int) rfl hjc
  clear hn h1 hse he h2 hse2 hs2 hj hk2 i7
  have i8 : ((s2 : Int) == (x : Int) + 1) = true := by rw [beq_iff_eq]; exact I7.out
  go_enter Tryz.func278, Tryz.ntmps278
  go_upto_region 19 with (first
    | (go_at_call 282; (with_reducible refine SE.out.mono ?_); rintro ed w1 ⟨z, rfl, k1⟩; have S1 := HS0.out.quiet k1; have a0 := S1.cell 0 rfl 0 rfl; have b0 := (RCn.iv S1 H1.out).1.1; have b1 := (RCn.iv S1 H1.out).2.1; have HS1 := Lib.hid S1; clear S1)
    | (go_at_call 63; (with_reducible refine (LA.out _).mono ?_); rintro ed w2 ⟨rfl, k2⟩; have S2 := HS1.out.quiet k2; have c0 := S2.cell 0 rfl 0 rfl; have d0 := (RCn.iv S2 H1.out).1.1; have d1 := (RCn.iv S2 H1.out).2; have d2 := (RCn.iv S2 H2.out).1.1; have d3 := (RCn.iv S2 H2.out).2.1; have HS2 := Lib.hid S2; clear S2 HS1)
    | fail)
  go_region_held3 (fun w' => w'.cell? ⟨p, 0, none⟩ = some (.slice (some ⟨g, 0, none⟩) n c) ∧ w'.cell? ⟨g, m * 2, none⟩ = some (.int .u16 (s : Int)) ∧ w'.cell? ⟨g, j * 2, none⟩ = some (.int .u16 (s2 : Int)) ∧ w'.cell? ⟨g, j * 2 + 1, none⟩ = some (.int .u16 ((e2 - s2 : Nat) : Int))) (first | exact RCn.at4 HS5.out M1.out M2.out | exact RCn.at4 HS4.out H1.out H2.out | exact RCn.at4 HS2.out.drew H1.out H2.out) (first
    | (go_at_call 63; (with_reducible refine (LB.out _).mono ?_); rintro ed w4 ⟨rfl, k4⟩; have S4 := HS2.out.drew.quiet k4; have f0 := S4.cell 0 rfl 0 rfl; have f1 := (RCn.iv S4 H1.out).1.1; have f2 := (RCn.iv S4 H1.out).2; have S5 := RCn.setB S4 H1.out e2; have f3 := S5.cell 0 rfl 0 rfl; have f4 := S5.free 0 rfl 0; have HS4 := Lib.hid S4; have HS5 := Lib.hid S5; clear S5 S4)
    | fail)
  all_goals
    obtain ⟨ys, -, -, hy3, S6⟩ := SS.reslice (L := [B p 113 [.slice (some ⟨g, 0, none⟩) n c]]) (R := []) (m := j) HS5.out.drew hjc
    have Hy := Lib.hid (hy3 (by omega))
    have HS6 := Lib.hid S6
    clear S6 hy3
    go_upto_region 20 with fail
    go_region_law (first
      | (refine step_of_list rfl ?_; intro Q9 hQ9; refine wpList_append_ss rfl (.tmp 172) (.tmp 179) 111 rfl 115 iU (.agg #[.int .u16 (0 : Int), .int .u16 (0 : Int)]) 2 4 undIvs zv1 zv2 zv3 zv4 rfl (by decide) w F [B p 113 [.slice (some ⟨g, 0, none⟩) n c]] [] (.slice (some ⟨g, 0, none⟩) j c) j ys rfl HS6.out (tlA g 0 (j + 1) c 2) (n - (j + 1)) (c - (j + 1)) (ivs ((rs.set m (s, e2)).drop (j + 1))) rfl (by rw [ivs_length, List.length_drop, List.length_set, Hn.out]) (ivs_src2 (by rw [List.length_set]; exact Hn.out) hjn hc1 (RCn.own HS5.out.drew)) (ivs_one _) (by unfold maxLen; omega) (by omega) ?_; intro v7 w7 S7; refine hQ9 _ _ ?_; clear hQ9 Q9; obtain ⟨g7, c7, rfl, _, _⟩ := Own.shape (S7.get (A := O 2 115 v7 (j + (n - (j + 1))) (ys ++ (ivs ((rs.set m (s, e2)).drop (j + 1))))) (by simp)) (by omega); have r6 := S7.cell 0 rfl 0 rfl; have r7 := S7.free 0 rfl 0; have S8 := Lib.hid (SS.store (L := []) S7 0 (.slice (some ⟨g7, 0, none⟩) (j + (n - (j + 1))) c7)); clear S7))
    all_goals go_wp2
    all_goals go_ret
    all_goals
      have S9 := S8.out
      have hX := HX.out
      have e6 : ys ++ ivs ((rs.set m (s, e2)).drop (j + 1)) = ivs (rs.take m ++ (s, e2) :: rs.drop (m + 2)) := by
        rw [Hy.out, ivs_take2, ← ivs_app, Hj.out, HSP.out]
      rw [e6] at S9
      have hj1 := Hj.out
      exact OneR.done (by simp [Hn.out]; omega) (by omega) (by rw [Hn.out]; omega) hX (show SS w F _ (RCn p g7 (j + (n - (j + 1))) c7 (rs.take m ++ (s, e2) :: rs.drop (m + 2))) from S9)
end Go.Proofs

namespace Go.Roar
open Go.RowKit Go.Proofs
/-- The place of a number among runs. -/
theorem spot_ex (rs : List (Nat × Nat)) (x : Nat) : ∃ j, Spot16 rs 0 x j := by
  have go : ∀ d k, k + d = rs.length → (∀ (i : Nat) (r : Nat × Nat), i < k → rs[i]? = some r → r.2 < x) → ∃ j, Spot16 rs 0 x j := by
    intro d
    induction d with
    | zero =>
      intro k hk h
      exact ⟨k, Nat.zero_le _, by omega, fun i r _ hi hr => h i r hi hr, fun r hr => by rw [List.getElem?_eq_none (by omega)] at hr; cases hr⟩
    | succ d ih =>
      intro k hk h
      obtain ⟨r, hr⟩ : ∃ r, rs[k]? = some r := ⟨_, List.getElem?_eq_getElem (by omega)⟩
      by_cases hx : r.2 < x
      · refine ih (k + 1) (by omega) (fun i q hi hq => ?_)
        rcases Nat.lt_or_ge i k with h1 | h1
        · exact h i q h1 hq
        · obtain rfl : i = k := by omega
          rw [hr] at hq; cases hq; exact hx
      · exact ⟨k, Nat.zero_le _, by omega, fun i q _ hi hq => h i q hi hq, fun q hq => by rw [hr] at hq; cases hq; omega⟩
  exact go rs.length 0 (by omega) (fun i r hi => absurd hi (Nat.not_lt_zero _))
end Go.Roar
namespace Go.Proofs
open Go.RowKit Go.Roar
theorem rcOne_any (p : Nat) (v : Value) (rs : List (Nat × Nat)) (x : Nat) (w : World) (hr : RgOK 65536 rs) (h0 : rs ≠ []) (hx : x < 65536) (h : Parts w (RC p v rs)) :
    Calls Tryz.prog 278 #[.pointer (some ⟨p, 0, none⟩), .int .u16 (x : Int)] w fun ed w' => OneR rs x p (foot (RC p v rs)) w ed w' := by
  obtain ⟨j, hj⟩ := spot_ex rs x
  have hlen := List.length_pos_iff.2 h0
  by_cases hjn : j < rs.length
  · have hq := List.getElem?_eq_getElem hjn
    obtain ⟨⟨s2, e2⟩, hq2⟩ : ∃ r, rs[j]? = some r := ⟨_, hq⟩
    by_cases hin : s2 ≤ x
    · exact rcAdd_yes p v rs x j (s2, e2) w hr h0 hx h hj hq2 hin
    · rcases j with _ | m
      · by_cases hs : x + 1 = s2
        · exact rcAdd_0R p v rs x s2 e2 w hr hx h hq2 hs
        · exact rcAdd_0A p v rs x s2 e2 w hr hx h hq2 (by omega)
      · obtain ⟨⟨s, e⟩, hq1⟩ : ∃ r, rs[m]? = some r := ⟨_, List.getElem?_eq_getElem (by omega)⟩
        have he := hj.2.2.1 m _ (Nat.zero_le _) (Nat.lt_succ_self m) hq1
        simp only at he
        by_cases hl : e + 1 = x
        · by_cases hs : x + 1 = s2
          · exact rcAdd_MB p v rs x m s e s2 e2 w hr hx h hq1 hq2 hl hs
          · exact rcAdd_ML p v rs x m s e s2 e2 w hr hx h hq1 hq2 hl (by omega)
        · by_cases hs : x + 1 = s2
          · exact rcAdd_MR p v rs x m s e s2 e2 w hr hx h hq1 hq2 (by omega) hs
          · exact rcAdd_MA p v rs x m s e s2 e2 w hr hx h hq1 hq2 (by omega) (by omega)
  · have hjl := hj.2.1
    obtain ⟨m, hm⟩ : ∃ m, m + 1 = rs.length := ⟨rs.length - 1, by omega⟩
    obtain ⟨⟨s, e⟩, hq1⟩ : ∃ r, rs[m]? = some r := ⟨_, List.getElem?_eq_getElem (by omega)⟩
    have he := hj.2.2.1 m _ (Nat.zero_le _) (by omega) hq1
    simp only at he
    by_cases hl : e + 1 = x
    · exact rcAdd_NL p v rs x m s e w hr hx h hm hq1 hl
    · exact rcAdd_NA p v rs x m s e w hr hx h hm hq1 (by omega)

set_option maxRecDepth 100000 in
set_option maxHeartbeats 1000000 in
theorem rcMin_any (p : Nat) (v : Value) (rs : List (Nat × Nat)) (x : Nat) (w : World) (hr : RgOK 65536 rs) (h0 : rs ≠ []) (hfew : rs.length ≤ 900) (hx : x < 65536) (h : Parts w (RC p v rs)) :
    Calls Tryz.prog 246 #[.pointer (some ⟨p, 0, none⟩), .int .u16 (x : Int)] w fun ed w' => AddPost (rgNums rs) x (x + 1) (foot (RC p v rs)) w ed w' := by
  have RO := Lib.hid (rcOne_any p v rs x w hr h0 hx h)
  have S0 := Lib.hid (SS.init h)
  have hfew2 := hfew
  unfold AddPost
  generalize hF : foot (RC p v rs) = F at *
  clear h hr
  go_enter Tryz.func246, Tryz.ntmps246
  go_wp2_with (first
    | (go_at_call 278; (with_reducible refine RO.out.mono ?_); rintro ed w1 ⟨b, v1, m, rfl, s1, s2, s3, s4, s5⟩; have EF := Lib.hid (rcEff_any p v1 m w1 s1 s2 (by omega) s5.sep); have T4 := Lib.hid s4; have T5 := Lib.hid s5; clear s1 s2 s3 s4 s5)
    | (go_at_call 45; (with_reducible refine EF.out.mono ?_); rintro ed w2 ⟨tt, v2, L, rfl, hK, hS⟩; have HK := Lib.hid hK; have HS := Lib.hid hS; clear hK hS)
    | fail)
  go_ret
  have hS2 := SS.step (R := []) T5.out (by rw [List.append_nil]) HS.out
  rw [List.append_nil] at hS2
  exact ⟨tt, v2, _, L, rfl, by rw [← T4.out]; exact HK.out, hS2⟩
end Go.Proofs
