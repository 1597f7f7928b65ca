/-
  runContainer16.deleteAt: the way in which a run is parted.
  runContainer16.removeKey: one number is taken out of runs, whichever way.
-/
import Derived.Test.YtjjijipfhnoomaaGreatDoorJOnr
namespace Go.Roar
open Go.RowKit Go.Proofs
theorem DAT.three {w0 w : World} {F : List Nat} {p g n c a b k s e : Nat} {va vb : Value} {rs : List (Nat × Nat)} (S : SS w0 F w (DAT p g n c a b va vb rs)) (h : rs[k]? = some (s, e)) :
    w.cell? ⟨p, 0, none⟩ = some (.slice (some ⟨g, 0, none⟩) n c) ∧ w.cell? ⟨g, k * 2, none⟩ = some (.int .u16 (s : Int)) ∧ w.cell? ⟨b, 0, none⟩ = some vb :=
  ⟨S.cell 2 rfl 0 rfl, (DAT.iv S h).1.1, S.cell 0 rfl 0 rfl⟩
/-- A new slice of two structs. -/
theorem SS.newO2 {w0 w : World} {F0 : List Nat} {L : List HA} (h : SS w0 F0 w L) (t : TypeId) (a b a' b' : Value) : SS w0 F0 (w.alloc (.cells #[a, b, a', b'] t)) (O 2 t (.slice (some ⟨w.heap.size, 0, none⟩) 2 2) 2 [a, b, a', b'] :: L) := by
  refine h.join (M := [O 2 t (.slice (some ⟨w.heap.size, 0, none⟩) 2 2) 2 [a, b, a', b']]) ⟨⟨fun A hA => ?_, by simp [O]⟩, fun b hb => ?_, (Kept.refl _ _).alloc _⟩
  · simp at hA; subst hA
    exact ⟨rfl, .inr ⟨w.heap.size, 0, [], rfl, rfl, by unfold maxLen; omega, Blk.new w t [a, b, a', b']⟩⟩
  · simp [O] at hb; subst hb; exact .inr (Nat.le_refl _)
theorem one_four {a b a' b' : Int} {l : List Value} (h : ∀ u ∈ l, u.oneCell' = true) : ∀ u ∈ [.int .u16 a, .int .u16 b, .int .u16 a', .int .u16 b'] ++ l, u.oneCell' = true := by
  intro u hu
  rcases List.mem_append.1 hu with hu | hu
  · simp at hu; rcases hu with rfl | rfl | rfl | rfl <;> rfl
  · exact h u hu
end Go.Roar
namespace Go.Proofs
open Go.RowKit Go.Roar
attribute [local go_sem ↓] Go.wp_at_zero Go.wp_at_succ

set_option maxRecDepth 100000 in
set_option maxHeartbeats 4000000 in
theorem del_mid (p g n c a b k s e x : Nat) (rs : List (Nat × Nat)) (w : World) (hr : RgOK 65536 rs) (hn : rs.length = n) (h1 : rs[k]? = some (s, e)) (hsx : s < x) (hxe : x < e) (h : Parts w (DAT p g n c a b (.int .i64 (k : Int)) (.int .u16 ((x - s : Nat) : Int)) rs)) :
    Calls Tryz.prog 240 #[.pointer (some ⟨p, 0, none⟩), .pointer (some ⟨a, 0, none⟩), .pointer (some ⟨b, 0, none⟩)] w fun ed w' => DelP rs x p a b (foot (DAT p g n c a b (.int .i64 (k : Int)) (.int .u16 ((x - s : Nat) : Int)) rs)) w ed w' := by
  obtain ⟨iU, zv1, zv2, zv3, zv4⟩ := info_parts infoIv
  have hre := runs_one hr h1
  simp only at hre
  have HX := Lib.hid (wo_mid hr h1 hsx hxe)
  have hk := (List.getElem?_eq_some_iff.1 h1).1
  have hmany := hr.many
  obtain ⟨m, hm⟩ : ∃ m, m = x - s := ⟨_, rfl⟩
  obtain ⟨d, hd⟩ : ∃ d, d = e - s := ⟨_, rfl⟩
  obtain ⟨t, ht⟩ : ∃ t, t = x + 1 := ⟨_, rfl⟩
  rw [← hm] at h ⊢
  have S0 := SS.init h
  generalize foot (DAT p g n c a b (.int .i64 (k : Int)) (.int .u16 (m : Int)) rs) = F at *
  have hcap := Own.caps (DAT.own S0)
  have c0 := S0.cell 2 rfl 0 rfl
  have ca := S0.cell 1 rfl 0 rfl
  have cb := S0.cell 0 rfl 0 rfl
  have d0 := (DAT.iv S0 h1).1.1
  have d1 := (DAT.iv S0 h1).2.1
  simp only at d0 d1
  rw [← hd] at d1
  have HS0 := Lib.hid S0
  have H1 := Lib.hid h1
  have w1 : IntKind.u16.wrap (IntKind.u16.wrap ((s : Int) + (m : Int)) - 1) = ((x - 1 : Nat) : Int) := by rw [IntWalk.u16_in ((s : Int) + (m : Int)) (by omega), IntWalk.u16_in _ (by omega)]; omega
  have N0 := Lib.hid (fun (W : World) => show Calls Tryz.prog 55 #[.int .u16 (s : Int), .int .u16 (IntKind.u16.wrap (IntKind.u16.wrap ((s : Int) + (m : Int)) - 1))] W fun ed w' => ed = .returned (.agg #[.int .u16 (s : Int), .int .u16 ((x - 1 - s : Nat) : Int)]) ∧ Mild W w' from by
    rw [w1]; exact newInterval_any s (x - 1) W (by omega) (by omega))
  have N1 := Lib.hid (fun (W : World) => show Calls Tryz.prog 55 #[.int .u16 (t : Int), .int .u16 (e : Int)] W fun ed w' => ed = .returned (.agg #[.int .u16 (t : Int), .int .u16 ((e - t : Nat) : Int)]) ∧ Mild W w' from newInterval_any t e W (by omega) (by omega))
  have LA := Lib.hid (fun (W : World) => show Calls Tryz.prog 68 #[.agg #[.int .u16 (s : Int), .int .u16 (d : Int)]] W fun ed w' => ed = .returned (.int .u16 (e : Int)) ∧ Mild W w' from by rw [hd]; exact last_r (s, e) W hre)
  have i1 : ((m : Int) == 0) = false := by rw [beq_eq_false_iff_ne]; omega
  have i2 : ¬ (m : Int) = 0 := by omega
  have i4 : ((m : Int) == (d : Int)) = false := by rw [beq_eq_false_iff_ne]; omega
  have i5 : ¬ (m : Int) = (d : Int) := by omega
  have i3 : (k : Int) < (n : Int) := by omega
  have i6 : ¬ (65535 : Int) < (t : Int) := by omega
  have hkn : k + 1 ≤ n := by omega
  have hkc : k ≤ c := by omega
  have hc1 := hcap.1
  have hc2 := hcap.2
  have Z := Lib.hid (And.intro (show 2 + (n - (k + 1)) ≤ maxLen by unfold maxLen; omega) (And.intro (show (2 + (n - (k + 1))) * 4 ≤ 140737488355328 by omega) (And.intro (show k + (2 + (n - (k + 1))) ≤ maxLen by unfold maxLen; omega) (show (k + (2 + (n - (k + 1)))) * 4 ≤ 140737488355328 by omega))))
  have q4 : IntKind.i64.wrap ((k : Int) + 1) = (k : Int) + 1 := IntWalk.i64_in _ (by omega)
  have s1 := fun (W : World) => run_slice_from (P := Tryz.prog) W undIvs szIv g 0 n c (k + 1) .i64 ((k : Int) + 1) (by omega) hkn
  have s3 := fun (W : World) => run_slice_to (P := Tryz.prog) W undIvs szIv (some ⟨g, 0, none⟩) n c k .i64 (k : Int) rfl hkc
  have q5 : IntKind.u16.wrap ((s : Int) + (m : Int)) = (x : Int) := by rw [IntWalk.u16_in _ (by omega)]; omega
  have q6 : IntKind.i64.wrap ((x : Int) + 1) = (t : Int) := by rw [IntWalk.i64_in _ (by omega)]; omega
  have q7 : IntKind.i64.wrap (x : Int) = (x : Int) := IntWalk.i64_in _ (by omega)
  have q8 : IntKind.u16.wrap (t : Int) = (t : Int) := IntWalk.u16_in _ (by omega)
  have hm6 : m < 65536 := by omega
  have ht6 : t < 65536 := by omega
  have hs6 : s < 65536 := by omega
  have Hn := Lib.hid hn
  have Hd := Lib.hid hd
  have Ht := Lib.hid ht
  have Q5 := Lib.hid q5
  clear hn h1 S0 h hr hcap hk hm hd ht hsx hxe hre w1 q5
  go_enter Tryz.func240, Tryz.ntmps240
  go_upto_region 2 with fail
  go_region_held3 (fun w' => w'.cell? ⟨p, 0, none⟩ = some (.slice (some ⟨g, 0, none⟩) n c) ∧ w'.cell? ⟨g, k * 2, none⟩ = some (.int .u16 (s : Int)) ∧ w'.cell? ⟨b, 0, none⟩ = some (.int .u16 (m : Int))) (first | exact DAT.three HS2.out H1.out | exact DAT.three (HS2.out.alloc _) H1.out | exact DAT.three HS0.out.drew H1.out | exact DAT.three (HS0.out.alloc _).drew H1.out | exact DAT.three (SS.right (L := [B w.heap.size 114 [.int .u16 (0 : Int), .int .u16 (0 : Int)]]) HS3.out) H1.out | exact DAT.three (SS.right (L := [B w.heap.size 114 [.int .u16 (s : Int), .int .u16 ((x - 1 - s : Nat) : Int)]]) HS4.out) H1.out | go_keep) (first
    | (go_at_call 55; (with_reducible refine (N0.out _).mono ?_); rintro ed w2 ⟨rfl, k2⟩; first | (have HS2 := Lib.hid (HS0.out.drew.quiet k2); clear k2) | (have S3 := (HS0.out.new 114 [.int .u16 (0 : Int), .int .u16 (0 : Int)]).drew.quiet k2; have HS3 := Lib.hid S3; have y0 := S3.free 0 rfl 0; have y1 := S3.free 0 rfl 1; have y2 := S3.cell 0 rfl 0 rfl; have y3 := S3.cell 0 rfl 1 rfl; have HS4 := Lib.hid (SS.store (L := []) (SS.store (L := []) S3 0 (.int .u16 (s : Int))) 1 (.int .u16 ((x - 1 - s : Nat) : Int))); clear S3 k2))
    | fail)
  all_goals
    first
      | (have T := HS2.out.new 114 [.int .u16 (s : Int), .int .u16 ((x - 1 - s : Nat) : Int)]; generalize (w2.alloc (.cells #[.int .u16 (s : Int), .int .u16 ((x - 1 - s : Nat) : Int)] 114)) = wz at *; generalize w2.heap.size = z at *)
      | (have T := HS4.out; generalize ((w2.setCell ⟨w.heap.size, 0, none⟩ (.int .u16 (s : Int))).setCell ⟨w.heap.size, 1, none⟩ (.int .u16 ((x - 1 - s : Nat) : Int))) = wz at *; generalize w.heap.size = z at *)
    have T1 := Lib.hid (show SS w F wz (B z 114 [.int .u16 (s : Int), .int .u16 ((x - 1 - s : Nat) : Int)] :: DAT p g n c a b (.int .i64 (k : Int)) (.int .u16 (m : Int)) rs) from T)
    have t0 := (DAT.three (SS.right (L := [B z 114 [.int .u16 (s : Int), .int .u16 ((x - 1 - s : Nat) : Int)]]) T) H1.out).1
    have t1 := (DAT.three (SS.right (L := [B z 114 [.int .u16 (s : Int), .int .u16 ((x - 1 - s : Nat) : Int)]]) T) H1.out).2.1
    have t2 := (DAT.three (SS.right (L := [B z 114 [.int .u16 (s : Int), .int .u16 ((x - 1 - s : Nat) : Int)]]) T) H1.out).2.2
    have t3 := (DAT.iv (SS.right (L := [B z 114 [.int .u16 (s : Int), .int .u16 ((x - 1 - s : Nat) : Int)]]) T) H1.out).2.1
    simp only at t3
    rw [← Hd.out] at t3
    clear T c0 ca cb d0 d1
    have q5 := Q5.out
    go_upto_region 3 with fail
    go_quiet (fail)
    go_upto_region 7 with (first
      | (go_at_call 68; (with_reducible refine (LA.out _).mono ?_); rintro ed w3 ⟨rfl, k3⟩; have T3 := Lib.hid ((T1.out.drewN _).quiet k3); clear k3)
      | (go_at_call 55; (with_reducible refine (N1.out _).mono ?_); rintro ed w4 ⟨rfl, k4⟩; have T5 := (T3.out.quiet k4).new 114 [.int .u16 (t : Int), .int .u16 ((e - t : Nat) : Int)]; have x0 := T5.cell 0 rfl 0 rfl; have x1 := T5.cell 0 rfl 1 rfl; have x2 := T5.cell 1 rfl 0 rfl; have x3 := T5.cell 1 rfl 1 rfl; have x4 := T5.cell 4 rfl 0 rfl; have T6 := Lib.hid (show SS w F (((w4.alloc (.cells #[.int .u16 (t : Int), .int .u16 ((e - t : Nat) : Int)] 114)).alloc (.cells #[.int .u16 (s : Int), .int .u16 ((x - 1 - s : Nat) : Int), .int .u16 (t : Int), .int .u16 ((e - t : Nat) : Int)] 114)).drew) ([] ++ O 2 114 (.slice (some ⟨w4.heap.size + 1, 0, none⟩) 2 2) 2 [.int .u16 (s : Int), .int .u16 ((x - 1 - s : Nat) : Int), .int .u16 (t : Int), .int .u16 ((e - t : Nat) : Int)] :: [B w4.heap.size 114 [.int .u16 (t : Int), .int .u16 ((e - t : Nat) : Int)], B z 114 [.int .u16 (s : Int), .int .u16 ((x - 1 - s : Nat) : Int)], B b 57 [.int .u16 (m : Int)], B a 3 [.int .i64 (k : Int)], B p 112 [.slice (some ⟨g, 0, none⟩) n c], O 2 114 (.slice (some ⟨g, 0, none⟩) n c) n (ivs rs)]) from (by have hh := (T5.newO2 114 (.int .u16 (s : Int)) (.int .u16 ((x - 1 - s : Nat) : Int)) (.int .u16 (t : Int)) (.int .u16 ((e - t : Nat) : Int))).drew; rw [show (w4.alloc (.cells #[.int .u16 (t : Int), .int .u16 ((e - t : Nat) : Int)] 114)).heap.size = w4.heap.size + 1 by simp] at hh; exact hh)); have x5 := (T5.newO2 114 (.int .u16 (s : Int)) (.int .u16 ((x - 1 - s : Nat) : Int)) (.int .u16 (t : Int)) (.int .u16 ((e - t : Nat) : Int))).cell 5 rfl 0 rfl; clear T5 k4)
      | fail)
    go_region_law (first
      | (refine step_of_list rfl ?_; intro Q9 hQ9; refine wpList_append_ss rfl (.tmp 70) (.tmp 77) 110 rfl 114 iU (.agg #[.int .u16 (0 : Int), .int .u16 (0 : Int)]) 2 4 undIvs zv1 zv2 zv3 zv4 rfl (by decide) w F [] [B w4.heap.size 114 [.int .u16 (t : Int), .int .u16 ((e - t : Nat) : Int)], B z 114 [.int .u16 (s : Int), .int .u16 ((x - 1 - s : Nat) : Int)], B b 57 [.int .u16 (m : Int)], B a 3 [.int .i64 (k : Int)], B p 112 [.slice (some ⟨g, 0, none⟩) n c], O 2 114 (.slice (some ⟨g, 0, none⟩) n c) n (ivs rs)] (.slice (some ⟨_, 0, none⟩) 2 2) 2 [.int .u16 (s : Int), .int .u16 ((x - 1 - s : Nat) : Int), .int .u16 (t : Int), .int .u16 ((e - t : Nat) : Int)] rfl T6.out (tlA g 0 (k + 1) c 2) (n - (k + 1)) (c - (k + 1)) (ivs (rs.drop (k + 1))) rfl (by rw [ivs_length, List.length_drop, Hn.out]) (ivs_srcD Hn.out hkn hc1 (T6.out.get (A := O 2 114 (.slice (some ⟨g, 0, none⟩) n c) n (ivs rs)) (by simp))) (ivs_one _) Z.out.1 Z.out.2.1 ?_; intro v5 w5 S5; refine hQ9 _ _ ?_; clear hQ9 Q9; have O5 : Own w5 2 114 v5 (2 + (n - (k + 1))) ([.int .u16 (s : Int), .int .u16 ((x - 1 - s : Nat) : Int), .int .u16 (t : Int), .int .u16 ((e - t : Nat) : Int)] ++ ivs (rs.drop (k + 1))) := S5.get (A := O 2 114 v5 (2 + (n - (k + 1))) (([.int .u16 (s : Int), .int .u16 ((x - 1 - s : Nat) : Int), .int .u16 (t : Int), .int .u16 ((e - t : Nat) : Int)] : List Value) ++ ivs (rs.drop (k + 1)))) (by simp); obtain ⟨g5, c5, rfl, _, _⟩ := Own.shape O5 (by omega); have r4 := S5.cell 5 rfl 0 rfl; have r5 := S5.free 5 rfl 0; have HS5 := Lib.hid S5; clear S5 O5))
    all_goals
      obtain ⟨ys, -, -, hy3, S6⟩ := SS.reslice (L := [O 2 114 (.slice (some ⟨g5, 0, none⟩) (2 + (n - (k + 1))) c5) (2 + (n - (k + 1))) (([.int .u16 (s : Int), .int .u16 ((x - 1 - s : Nat) : Int), .int .u16 (t : Int), .int .u16 ((e - t : Nat) : Int)] : List Value) ++ ivs (rs.drop (k + 1))), B w4.heap.size 114 [.int .u16 (t : Int), .int .u16 ((e - t : Nat) : Int)], B z 114 [.int .u16 (s : Int), .int .u16 ((x - 1 - s : Nat) : Int)], B b 57 [.int .u16 (m : Int)], B a 3 [.int .i64 (k : Int)], B p 112 [.slice (some ⟨g, 0, none⟩) n c]]) (R := []) (m := k) HS5.out hkc
      have Hy := Lib.hid (hy3 (by omega))
      have HS6 := Lib.hid S6
      clear S6 hy3
      go_wp2_with (first
        | (at_builtin; refine wpList_append_ss rfl (.tmp 85) (.tmp 86) 110 rfl 114 iU (.agg #[.int .u16 (0 : Int), .int .u16 (0 : Int)]) 2 4 undIvs zv1 zv2 zv3 zv4 rfl (by decide) w F [O 2 114 (.slice (some ⟨g5, 0, none⟩) (2 + (n - (k + 1))) c5) (2 + (n - (k + 1))) (([.int .u16 (s : Int), .int .u16 ((x - 1 - s : Nat) : Int), .int .u16 (t : Int), .int .u16 ((e - t : Nat) : Int)] : List Value) ++ ivs (rs.drop (k + 1))), B w4.heap.size 114 [.int .u16 (t : Int), .int .u16 ((e - t : Nat) : Int)], B z 114 [.int .u16 (s : Int), .int .u16 ((x - 1 - s : Nat) : Int)], B b 57 [.int .u16 (m : Int)], B a 3 [.int .i64 (k : Int)], B p 112 [.slice (some ⟨g, 0, none⟩) n c]] [] (.slice (some ⟨g, 0, none⟩) k c) k ys rfl HS6.out ⟨g5, 0, none⟩ (2 + (n - (k + 1))) c5 (([.int .u16 (s : Int), .int .u16 ((x - 1 - s : Nat) : Int), .int .u16 (t : Int), .int .u16 ((e - t : Nat) : Int)] : List Value) ++ ivs (rs.drop (k + 1))) rfl (by rw [List.length_append, ivs_length, List.length_drop, Hn.out, Nat.add_mul]; rfl) (Own.src0 (HS6.out.get (A := O 2 114 (.slice (some ⟨g5, 0, none⟩) (2 + (n - (k + 1))) c5) (2 + (n - (k + 1))) (([.int .u16 (s : Int), .int .u16 ((x - 1 - s : Nat) : Int), .int .u16 (t : Int), .int .u16 ((e - t : Nat) : Int)] : List Value) ++ ivs (rs.drop (k + 1)))) (by simp)) _ (fun _ _ h => h)) (one_four (ivs_one _)) Z.out.2.2.1 Z.out.2.2.2 ?_; intro v7 w7 S7; have O7 : Own w7 2 114 v7 (k + (2 + (n - (k + 1)))) (ys ++ (([.int .u16 (s : Int), .int .u16 ((x - 1 - s : Nat) : Int), .int .u16 (t : Int), .int .u16 ((e - t : Nat) : Int)] : List Value) ++ ivs (rs.drop (k + 1)))) := S7.get (A := O 2 114 v7 (k + (2 + (n - (k + 1)))) (ys ++ (([.int .u16 (s : Int), .int .u16 ((x - 1 - s : Nat) : Int), .int .u16 (t : Int), .int .u16 ((e - t : Nat) : Int)] : List Value) ++ ivs (rs.drop (k + 1))))) (by simp); obtain ⟨g7, c7, rfl, _, _⟩ := Own.shape O7 (by omega); have y0 := S7.cell 5 rfl 0 rfl; have y1 := S7.free 5 rfl 0; have S8 := SS.store (L := [O 2 114 (.slice (some ⟨g5, 0, none⟩) (2 + (n - (k + 1))) c5) (2 + (n - (k + 1))) (([.int .u16 (s : Int), .int .u16 ((x - 1 - s : Nat) : Int), .int .u16 (t : Int), .int .u16 ((e - t : Nat) : Int)] : List Value) ++ ivs (rs.drop (k + 1))), B w4.heap.size 114 [.int .u16 (t : Int), .int .u16 ((e - t : Nat) : Int)], B z 114 [.int .u16 (s : Int), .int .u16 ((x - 1 - s : Nat) : Int)], B b 57 [.int .u16 (m : Int)], B a 3 [.int .i64 (k : Int)]]) S7 0 (.slice (some ⟨g7, 0, none⟩) (k + (2 + (n - (k + 1)))) c7); have y2 := S8.cell 4 rfl 0 rfl; have y3 := S8.free 4 rfl 0; have S9 := SS.store (L := [O 2 114 (.slice (some ⟨g5, 0, none⟩) (2 + (n - (k + 1))) c5) (2 + (n - (k + 1))) (([.int .u16 (s : Int), .int .u16 ((x - 1 - s : Nat) : Int), .int .u16 (t : Int), .int .u16 ((e - t : Nat) : Int)] : List Value) ++ ivs (rs.drop (k + 1))), B w4.heap.size 114 [.int .u16 (t : Int), .int .u16 ((e - t : Nat) : Int)], B z 114 [.int .u16 (s : Int), .int .u16 ((x - 1 - s : Nat) : Int)], B b 57 [.int .u16 (m : Int)]]) S8 0 (.int .i64 ((k : Int) + 1)); have y4 := S9.cell 3 rfl 0 rfl; have y5 := S9.free 3 rfl 0; have S10 := Lib.hid (SS.store (L := [O 2 114 (.slice (some ⟨g5, 0, none⟩) (2 + (n - (k + 1))) c5) (2 + (n - (k + 1))) (([.int .u16 (s : Int), .int .u16 ((x - 1 - s : Nat) : Int), .int .u16 (t : Int), .int .u16 ((e - t : Nat) : Int)] : List Value) ++ ivs (rs.drop (k + 1))), B w4.heap.size 114 [.int .u16 (t : Int), .int .u16 ((e - t : Nat) : Int)], B z 114 [.int .u16 (s : Int), .int .u16 ((x - 1 - s : Nat) : Int)]]) S9 0 (.int .u16 0)); clear S7 S8 S9 O7)
        | fail)
      go_end0
      have S11 := S10.out
      have hX := HX.out
      rw [← Ht.out] at hX
      have e6 : ys ++ (([.int .u16 (s : Int), .int .u16 ((x - 1 - s : Nat) : Int), .int .u16 (t : Int), .int .u16 ((e - t : Nat) : Int)] : List Value) ++ ivs (rs.drop (k + 1))) = ivs (rs.take k ++ (s, x - 1) :: (t, e) :: rs.drop (k + 1)) := by rw [Hy.out, ivs_take2, ivs_app, ivs_cons, ivs_cons]; simp
      have e7 : (rs.take k ++ (s, x - 1) :: (t, e) :: rs.drop (k + 1)).length = k + (2 + (n - (k + 1))) := by
        clear q4 q5 q6 q7 q8
        rw [List.length_append, List.length_take, List.length_cons, List.length_cons, List.length_drop, Hn.out, Nat.min_eq_left (by omega)]
        omega
      rw [e6] at S11
      have S12 := SS.right (L := [O 2 114 (.slice (some ⟨g5, 0, none⟩) (2 + (n - (k + 1))) c5) (2 + (n - (k + 1))) (([.int .u16 (s : Int), .int .u16 ((x - 1 - s : Nat) : Int), .int .u16 (t : Int), .int .u16 ((e - t : Nat) : Int)] : List Value) ++ ivs (rs.drop (k + 1))), B w4.heap.size 114 [.int .u16 (t : Int), .int .u16 ((e - t : Nat) : Int)], B z 114 [.int .u16 (s : Int), .int .u16 ((x - 1 - s : Nat) : Int)]]) (M := DAT p g7 (k + (2 + (n - (k + 1)))) c7 a b (.int .i64 ((k : Int) + 1)) (.int .u16 0) (rs.take k ++ (s, x - 1) :: (t, e) :: rs.drop (k + 1))) S11
      exact DelP.of e7 (by clear q4 q5 q6 q7 q8; rw [Hn.out]; omega) hX S12
end Go.Proofs

namespace Go.Roar
open Go.RowKit Go.Proofs
/-- The place of a number among runs. -/
theorem spot_exR (rs : List (Nat × Nat)) (x : Nat) : ∃ j, Spot16 rs 0 x j := by
  have go : ∀ d k, k + d = rs.length → (∀ (i : Nat) (r : Nat × Nat), i < k → rs[i]? = some r → r.2 < x) → ∃ j, Spot16 rs 0 x j := by
    intro d
    induction d with
    | zero =>
      intro k hk h
      exact ⟨k, Nat.zero_le _, by omega, fun i r _ hi hr => h i r hi hr, fun r hr => by rw [List.getElem?_eq_none (by omega)] at hr; cases hr⟩
    | succ d ih =>
      intro k hk h
      obtain ⟨r, hr⟩ : ∃ r, rs[k]? = some r := ⟨_, List.getElem?_eq_getElem (by omega)⟩
      by_cases hx : r.2 < x
      · refine ih (k + 1) (by omega) (fun i q hi hq => ?_)
        rcases Nat.lt_or_ge i k with h1 | h1
        · exact h i q h1 hq
        · obtain rfl : i = k := by omega
          rw [hr] at hq; cases hq; exact hx
      · exact ⟨k, Nat.zero_le _, by omega, fun i q _ hi hq => h i q hi hq, fun q hq => by rw [hr] at hq; cases hq; omega⟩
  exact go rs.length 0 (by omega) (fun i r hi => absurd hi (Nat.not_lt_zero _))
theorem DA.three {w0 w : World} {F : List Nat} {p g n c a j s e : Nat} {rs : List (Nat × Nat)} (S : SS w0 F w (B a 3 [.int .i64 (j : Int)] :: RCn p g n c rs)) (h : rs[j]? = some (s, e)) :
    w.cell? ⟨p, 0, none⟩ = some (.slice (some ⟨g, 0, none⟩) n c) ∧ w.cell? ⟨a, 0, none⟩ = some (.int .i64 (j : Int)) ∧ w.cell? ⟨g, j * 2, none⟩ = some (.int .u16 (s : Int)) :=
  ⟨S.cell 1 rfl 0 rfl, S.cell 0 rfl 0 rfl, (RCn.iv (SS.right (L := [B a 3 [.int .i64 (j : Int)]]) S) h).1.1⟩
/-- What removing a key leads to. -/
def RemR (rs : List (Nat × Nat)) (x p : Nat) (F : List Nat) (w : World) (ed : Ending) (w' : World) : Prop :=
  ∃ b v' m, ed = .returned (.bool b) ∧ RgOK 65536 m ∧ m.length ≤ rs.length + 1 ∧ rgNums m = wo (rgNums rs) x ∧ SS w F w' (RC p v' m)
theorem spot_no {rs : List (Nat × Nat)} {x j : Nat} (hr : RgOK 65536 rs) (hj : Spot16 rs 0 x j) (hno : ∀ r : Nat × Nat, rs[j]? = some r → x < r.1) : x ∉ rgNums rs := by
  intro hm
  obtain ⟨r, hrm, h1, h2⟩ := (rgNums_mem (fun q hq => (hr.1 q hq).1) x).1 hm
  obtain ⟨i, hi⟩ := List.getElem?_of_mem hrm
  rcases Nat.lt_trichotomy i j with h | h | h
  · have := hj.2.2.1 i r (Nat.zero_le _) h hi; omega
  · subst h; have := hno r hi; omega
  · have hjl : j < rs.length := by have := (List.getElem?_eq_some_iff.1 hi).1; omega
    have hq := List.getElem?_eq_getElem hjl
    have h3 := hno _ hq
    have h4 := runs_two hr h hq hi
    have h5 := runs_one hr hq
    omega
end Go.Roar
namespace Go.Proofs
open Go.RowKit Go.Roar

theorem del_any (p g n c a b k s e x : Nat) (rs : List (Nat × Nat)) (w : World) (hr : RgOK 65536 rs) (hn : rs.length = n) (h1 : rs[k]? = some (s, e)) (hx : s ≤ x ∧ x ≤ e) (h : Parts w (DAT p g n c a b (.int .i64 (k : Int)) (.int .u16 ((x - s : Nat) : Int)) rs)) :
    Calls Tryz.prog 240 #[.pointer (some ⟨p, 0, none⟩), .pointer (some ⟨a, 0, none⟩), .pointer (some ⟨b, 0, none⟩)] w fun ed w' => DelP rs x p a b (foot (DAT p g n c a b (.int .i64 (k : Int)) (.int .u16 ((x - s : Nat) : Int)) rs)) w ed w' := by
  by_cases hs : x = s
  · subst hs
    rw [Nat.sub_self] at h ⊢
    by_cases he : x = e
    · subst he
      exact del_run p g n c a b k x rs w hr hn h1 h
    · exact del_first p g n c a b k x e rs w hr hn h1 (by omega) h
  · by_cases he : x = e
    · subst he
      exact del_last p g n c a b k s x rs w hr hn h1 (by omega) h
    · exact del_mid p g n c a b k s e x rs w hr hn h1 (by omega) (by omega) h

set_option maxRecDepth 100000 in
set_option maxHeartbeats 2000000 in
theorem rcDel_yes (p : Nat) (v : Value) (rs : List (Nat × Nat)) (x j s e : Nat) (w : World) (hr : RgOK 65536 rs) (h0 : rs ≠ []) (hx : x < 65536) (h : Parts w (RC p v rs)) (hj : Spot16 rs 0 x j) (hyes : rs[j]? = some (s, e)) (hr1 : s ≤ x) :
    Calls Tryz.prog 229 #[.pointer (some ⟨p, 0, none⟩), .int .u16 (x : Int)] w fun ed w' => RemR rs x p (foot (RC p v rs)) w ed w' := by
  have hr2 := hj.2.2.2 _ hyes
  simp only at hr2
  have hk := (List.getElem?_eq_some_iff.1 hyes).1
  obtain ⟨g, c, rfl, hc1, hc2⟩ := RCn.of h h0
  have S0 := SS.init h
  have hmany := hr.many
  generalize hF : foot (RC p (.slice (some ⟨g, 0, none⟩) rs.length c) rs) = F at *
  have SA := S0.new 3 [.int .i64 0]
  have SE := Lib.hid (searchYes (x := x) (SS.right (L := [B w.heap.size 3 [.int .i64 0]]) SA).sep hr h0 hx hj hyes hr1)
  generalize hn : rs.length = n at *
  have hm9 : x - s < 65536 := by omega
  have q1 : IntKind.u16.wrap ((x : Int) - (s : Int)) = ((x - s : Nat) : Int) := by rw [IntWalk.u16_in _ (by omega)]; omega
  have DE := Lib.hid (fun (a b : Nat) (W : World) (hP : Parts W (DAT p g n c a b (.int .i64 (j : Int)) (.int .u16 ((x - s : Nat) : Int)) rs)) => del_any p g n c a b j s e x rs W hr hn hyes ⟨hr1, hr2⟩ hP)
  have Hn := Lib.hid hn
  have HSA := Lib.hid (show SS w F (w.alloc (.cells #[.int .i64 0] 3)) (B w.heap.size 3 [.int .i64 0] :: RCn p g n c rs) from by rw [RCn.eq p g n c hn]; subst hn; exact SA)
  have H1 := Lib.hid hyes
  have i3 : (j : Int) < (n : Int) := by omega
  clear hF h S0 SA hr hn hyes hj hr1 hr2 hk
  generalize x - s = m at *
  go_enter Tryz.func229, Tryz.ntmps229
  go_upto_region 4 with (first
    | (go_at_call 233; (with_reducible refine SE.out.mono ?_); rintro ed w1 ⟨z, rfl, k1⟩; have S1 := HSA.out.quiet k1; have a0 := S1.cell 0 rfl 0 rfl; have a1 := S1.free 0 rfl 0; have S2 := SS.store (L := []) S1 0 (.int .i64 (j : Int)); have b0 := S2.cell 1 rfl 0 rfl; have b1 := S2.cell 0 rfl 0 rfl; have b2 := (RCn.iv (SS.right (L := [B w.heap.size 3 [.int .i64 (j : Int)]]) S2) H1.out).1.1; have HS2 := Lib.hid S2; clear S1 S2 k1)
    | fail)
  have Hm := Lib.hid hm9
  go_region_held3 (fun w' => w'.cell? ⟨p, 0, none⟩ = some (.slice (some ⟨g, 0, none⟩) n c) ∧ w'.cell? ⟨w.heap.size, 0, none⟩ = some (.int .i64 (j : Int)) ∧ w'.cell? ⟨g, j * 2, none⟩ = some (.int .u16 (s : Int))) (first | exact DA.three HS2.out.drew H1.out | exact DA.three (HS2.out.drew.alloc _) H1.out | exact DA.three (HS2.out.alloc _).drew H1.out) (fail)
  have T := Lib.hid (show SS w F (((w1.setCell ⟨w.heap.size, 0, none⟩ (.int .i64 (j : Int))).alloc (.cells #[.int .u16 (m : Int)] 57)).drew) (DAT p g n c w.heap.size w1.heap.size (.int .i64 (j : Int)) (.int .u16 (m : Int)) rs) from (by have hh := (HS2.out.new 57 [.int .u16 (m : Int)]).drew; rw [World.size_setCell] at hh; exact hh))
  clear b0 b1 b2
  go_wp2_with (first
    | (go_at_call 240; (with_reducible refine (DE.out _ _ _ T.out.sep).mono ?_); rintro ed w5 ⟨rfl, va, vb, v', m', s1, s2, s3, s4⟩; have T1 := Lib.hid s1; have T2 := Lib.hid s2; have T3 := Lib.hid s3; have T4 := Lib.hid s4; clear s1 s2 s3 s4)
    | fail)
  go_ret
  have h5 := SS.step (R := []) T.out (by rw [List.append_nil]) T4.out
  rw [List.append_nil] at h5
  exact ⟨_, v', m', rfl, T1.out, T2.out, T3.out, h5.right⟩

set_option maxRecDepth 100000 in
set_option maxHeartbeats 1000000 in
theorem rcDel_no (p : Nat) (v : Value) (rs : List (Nat × Nat)) (x j : Nat) (J : Int) (w : World) (hr : RgOK 65536 rs) (h0 : rs ≠ []) (hx : x < 65536) (h : Parts w (RC p v rs)) (hj : Spot16 rs 0 x j) (hno : ∀ r : Nat × Nat, rs[j]? = some r → x < r.1) (hJ : J + 1 = (j : Int)) :
    Calls Tryz.prog 229 #[.pointer (some ⟨p, 0, none⟩), .int .u16 (x : Int)] w fun ed w' => RemR rs x p (foot (RC p v rs)) w ed w' := by
  have S0 := SS.init h
  generalize hF : foot (RC p v rs) = F at *
  have SA := S0.new 3 [.int .i64 0]
  have SE := Lib.hid (searchNo (x := x) (SS.right (L := [B w.heap.size 3 [.int .i64 0]]) SA).sep hr h0 hx hj hno hJ)
  have HSA := Lib.hid SA
  have HW := Lib.hid (wo_none (spot_no hr hj hno))
  have HR := Lib.hid hr
  clear hF h S0 SA hr hj hno hJ
  go_enter Tryz.func229, Tryz.ntmps229
  go_wp2_with (first
    | (go_at_call 233; (with_reducible refine SE.out.mono ?_); rintro ed w1 ⟨z, rfl, k1⟩; have S1 := HSA.out.quiet k1; have a0 := S1.cell 0 rfl 0 rfl; have a1 := S1.free 0 rfl 0; have S2 := Lib.hid (SS.store (L := []) S1 0 (.int .i64 J)); clear S1 k1)
    | fail)
  go_ret
  exact ⟨_, v, rs, rfl, HR.out, Nat.le_succ _, HW.out.symm, SS.right (L := [B w.heap.size 3 [.int .i64 J]]) S2.out⟩
theorem rcDel_any (p : Nat) (v : Value) (rs : List (Nat × Nat)) (x : Nat) (w : World) (hr : RgOK 65536 rs) (h0 : rs ≠ []) (hx : x < 65536) (h : Parts w (RC p v rs)) :
    Calls Tryz.prog 229 #[.pointer (some ⟨p, 0, none⟩), .int .u16 (x : Int)] w fun ed w' => RemR rs x p (foot (RC p v rs)) w ed w' := by
  obtain ⟨j, hj⟩ := spot_exR rs x
  by_cases hjn : j < rs.length
  · obtain ⟨⟨s, e⟩, hq⟩ : ∃ r, rs[j]? = some r := ⟨_, List.getElem?_eq_getElem hjn⟩
    by_cases hin : s ≤ x
    · exact rcDel_yes p v rs x j s e w hr h0 hx h hj hq hin
    · exact rcDel_no p v rs x j ((j : Int) - 1) w hr h0 hx h hj (fun r hr' => by rw [hq] at hr'; cases hr'; show x < s; omega) (by omega)
  · exact rcDel_no p v rs x j ((j : Int) - 1) w hr h0 hx h hj (fun r hr' => by rw [List.getElem?_eq_none (by omega)] at hr'; cases hr') (by omega)
end Go.Proofs
