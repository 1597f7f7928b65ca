/-
  Intervals: have4Overlap16, intersectWithLeftover16.
  Intervals: haveOverlap16, intersectInterval16s, isSuperSetOf.
  runContainer16.findNextIntervalThatIntersectsStartingFrom.
-/
import Derived.Test.YtjjijipfhnoomaaGreatDoorJAcNil
import Derived.Test.YtjjijipfhnoomaaGreatDoorJSr
import Derived.Test.YtjjijipfhnoomaaGreatDoorJAoR
namespace Go.Proofs
open Go.RowKit Go.Roar
attribute [local go_sem ↓] Go.wp_at_zero Go.wp_at_succ
theorem have4_any (s al u bl : Nat) (w : World) (ha : al < 65536) (hb : bl < 65536) (b : Bool) (hov : b = decide (u ≤ al ∧ s ≤ bl)) :
    Calls Tryz.prog 248 #[.int .i64 (s : Int), .int .i64 (al : Int), .int .i64 (u : Int), .int .i64 (bl : Int)] w fun ed w' => ed = .returned (.bool b) ∧ w = w' := by
  subst hov
  by_cases h1 : u ≤ al
  · have i1 : ¬ (al : Int) + 1 ≤ (u : Int) := by omega
    go_enter Tryz.func248, Tryz.ntmps248
    go_wp2
    go_ret
    exact ⟨congrArg (fun x => Ending.returned (Value.bool x)) (decide_eq_decide.2 (by omega)), rfl⟩
  · have i1 : (al : Int) + 1 ≤ (u : Int) := by omega
    go_enter Tryz.func248, Tryz.ntmps248
    go_wp2
    go_ret
    exact ⟨congrArg (fun x => Ending.returned (Value.bool x)) (decide_eq_false (by omega)).symm, rfl⟩
set_option maxRecDepth 100000 in
theorem islNo_any (s al u bl : Nat) (w : World) (ha : al < 65536) (hb : bl < 65536) (hno : ¬ (u ≤ al ∧ s ≤ bl)) :
    Calls Tryz.prog 244 #[.int .i64 (s : Int), .int .i64 (al : Int), .int .i64 (u : Int), .int .i64 (bl : Int)] w fun ed w' => ed = .returned (.tuple #[.bool false, .bool false, .bool false, .int .i64 0, .agg #[.int .u16 0, .int .u16 0]]) ∧ Mild w w' := by
  have S0 := (SS.init (w := w) (L := []) ⟨by simp, by simp⟩).new 114 [.int .u16 (0 : Int), .int .u16 (0 : Int)]
  have HV := Lib.hid (fun (W : World) => have4_any s al u bl W ha hb false (decide_eq_false hno).symm)
  go_enter Tryz.func244, Tryz.ntmps244
  go_wp2_with (first
    | (go_at_call 248; (with_reducible refine (HV.out _).mono ?_); rintro ed w1 ⟨rfl, rfl⟩)
    | fail)
  have g1 := S0.cell 0 rfl 0 rfl
  have g2 := S0.cell 0 rfl 1 rfl
  refine bodyPost_ret (v := .tuple #[.bool false, .bool false, .bool false, .int .i64 0, .agg #[.int .u16 0, .int .u16 0]]) (by simp [results, Tryz.results244, go_sem, g1, g2]) rfl ⟨rfl, S0.mild⟩
set_option maxRecDepth 100000 in
set_option maxHeartbeats 1000000 in
theorem islA_any (s al u bl : Nat) (w : World) (hs : s ≤ al) (hu : u ≤ bl) (ha : al < 65536) (hb : bl < 65536) (ho : u ≤ al ∧ s ≤ bl) (h : bl < al) :
    Calls Tryz.prog 244 #[.int .i64 (s : Int), .int .i64 (al : Int), .int .i64 (u : Int), .int .i64 (bl : Int)] w fun ed w' => ed = .returned (.tuple #[.bool true, .bool true, .bool false, .int .i64 ((bl : Int) + 1), .agg #[.int .u16 ((max s u : Nat) : Int), .int .u16 ((bl - max s u : Nat) : Int)]]) ∧ Mild w w' := by
  have S0 := (SS.init (w := w) (L := []) ⟨by simp, by simp⟩).new 114 [.int .u16 (0 : Int), .int .u16 (0 : Int)]
  have HV := Lib.hid (fun (W : World) => have4_any s al u bl W ha hb true (decide_eq_true ho).symm)
  obtain ⟨M, hM⟩ : ∃ M, M = max s u := ⟨_, rfl⟩
  rw [← hM]
  have HM := Lib.hid hM
  have hME : M ≤ bl := by omega
  clear hM
  have w1 : IntKind.u16.wrap (s : Int) = (s : Int) := IntWalk.u16_in _ (by omega)
  have w2 : IntKind.u16.wrap (u : Int) = (u : Int) := IntWalk.u16_in _ (by omega)
  have w3 : IntKind.u16.wrap (al : Int) = (al : Int) := IntWalk.u16_in _ (by omega)
  have w4 : IntKind.u16.wrap (bl : Int) = (bl : Int) := IntWalk.u16_in _ (by omega)
  have w5 : IntKind.u16.wrap ((bl : Int) - (M : Int)) = ((bl - M : Nat) : Int) := (IntWalk.u16_in _ (by omega)).trans (by omega)
  have j1 : (bl : Int) < (al : Int) := by omega
  have f0 := fun o => S0.free 0 rfl o
  have c0 := S0.cell 0 rfl 0 rfl
  clear h
  by_cases hc : s < u
  · have i1 : (s : Int) < (u : Int) := by omega
    have hm : M = u := by have := HM.out; omega
    subst hm
    go_enter Tryz.func244, Tryz.ntmps244
    go_wp2_with (first
      | (go_at_call 248; (with_reducible refine (HV.out _).mono ?_); rintro ed w1 ⟨rfl, rfl⟩)
      | fail)
    refine bodyPost_ret (v := .tuple #[.bool true, .bool true, .bool false, .int .i64 ((bl : Int) + 1), .agg #[.int .u16 (M : Int), .int .u16 ((bl - M : Nat) : Int)]]) (by simp [results, Tryz.results244, go_sem]) rfl ⟨rfl, (Kept.refl _ _).alloc _⟩
  · have i1 : ¬ (s : Int) < (u : Int) := by omega
    have hm : M = s := by have := HM.out; omega
    subst hm
    go_enter Tryz.func244, Tryz.ntmps244
    go_wp2_with (first
      | (go_at_call 248; (with_reducible refine (HV.out _).mono ?_); rintro ed w1 ⟨rfl, rfl⟩)
      | fail)
    refine bodyPost_ret (v := .tuple #[.bool true, .bool true, .bool false, .int .i64 ((bl : Int) + 1), .agg #[.int .u16 (M : Int), .int .u16 ((bl - M : Nat) : Int)]]) (by simp [results, Tryz.results244, go_sem]) rfl ⟨rfl, (Kept.refl _ _).alloc _⟩
set_option maxRecDepth 100000 in
set_option maxHeartbeats 1000000 in
theorem islB_any (s al u bl : Nat) (w : World) (hs : s ≤ al) (hu : u ≤ bl) (ha : al < 65536) (hb : bl < 65536) (ho : u ≤ al ∧ s ≤ bl) (h : al < bl) :
    Calls Tryz.prog 244 #[.int .i64 (s : Int), .int .i64 (al : Int), .int .i64 (u : Int), .int .i64 (bl : Int)] w fun ed w' => ed = .returned (.tuple #[.bool true, .bool false, .bool true, .int .i64 ((al : Int) + 1), .agg #[.int .u16 ((max s u : Nat) : Int), .int .u16 ((al - max s u : Nat) : Int)]]) ∧ Mild w w' := by
  have S0 := (SS.init (w := w) (L := []) ⟨by simp, by simp⟩).new 114 [.int .u16 (0 : Int), .int .u16 (0 : Int)]
  have HV := Lib.hid (fun (W : World) => have4_any s al u bl W ha hb true (decide_eq_true ho).symm)
  obtain ⟨M, hM⟩ : ∃ M, M = max s u := ⟨_, rfl⟩
  rw [← hM]
  have HM := Lib.hid hM
  have hME : M ≤ al := by omega
  clear hM
  have w1 : IntKind.u16.wrap (s : Int) = (s : Int) := IntWalk.u16_in _ (by omega)
  have w2 : IntKind.u16.wrap (u : Int) = (u : Int) := IntWalk.u16_in _ (by omega)
  have w3 : IntKind.u16.wrap (al : Int) = (al : Int) := IntWalk.u16_in _ (by omega)
  have w4 : IntKind.u16.wrap (bl : Int) = (bl : Int) := IntWalk.u16_in _ (by omega)
  have w5 : IntKind.u16.wrap ((al : Int) - (M : Int)) = ((al - M : Nat) : Int) := (IntWalk.u16_in _ (by omega)).trans (by omega)
  have j1 : ¬ (bl : Int) < (al : Int) := by omega
  have j2 : (al : Int) < (bl : Int) := by omega
  have f0 := fun o => S0.free 0 rfl o
  have c0 := S0.cell 0 rfl 0 rfl
  clear h
  by_cases hc : s < u
  · have i1 : (s : Int) < (u : Int) := by omega
    have hm : M = u := by have := HM.out; omega
    subst hm
    go_enter Tryz.func244, Tryz.ntmps244
    go_wp2_with (first
      | (go_at_call 248; (with_reducible refine (HV.out _).mono ?_); rintro ed w1 ⟨rfl, rfl⟩)
      | fail)
    refine bodyPost_ret (v := .tuple #[.bool true, .bool false, .bool true, .int .i64 ((al : Int) + 1), .agg #[.int .u16 (M : Int), .int .u16 ((al - M : Nat) : Int)]]) (by simp [results, Tryz.results244, go_sem]) rfl ⟨rfl, (Kept.refl _ _).alloc _⟩
  · have i1 : ¬ (s : Int) < (u : Int) := by omega
    have hm : M = s := by have := HM.out; omega
    subst hm
    go_enter Tryz.func244, Tryz.ntmps244
    go_wp2_with (first
      | (go_at_call 248; (with_reducible refine (HV.out _).mono ?_); rintro ed w1 ⟨rfl, rfl⟩)
      | fail)
    refine bodyPost_ret (v := .tuple #[.bool true, .bool false, .bool true, .int .i64 ((al : Int) + 1), .agg #[.int .u16 (M : Int), .int .u16 ((al - M : Nat) : Int)]]) (by simp [results, Tryz.results244, go_sem]) rfl ⟨rfl, (Kept.refl _ _).alloc _⟩
set_option maxRecDepth 100000 in
set_option maxHeartbeats 1000000 in
theorem islN_any (s al u bl : Nat) (w : World) (hs : s ≤ al) (hu : u ≤ bl) (ha : al < 65536) (hb : bl < 65536) (ho : u ≤ al ∧ s ≤ bl) (h : al = bl) :
    Calls Tryz.prog 244 #[.int .i64 (s : Int), .int .i64 (al : Int), .int .i64 (u : Int), .int .i64 (bl : Int)] w fun ed w' => ed = .returned (.tuple #[.bool true, .bool false, .bool false, .int .i64 0, .agg #[.int .u16 ((max s u : Nat) : Int), .int .u16 ((al - max s u : Nat) : Int)]]) ∧ Mild w w' := by
  have S0 := (SS.init (w := w) (L := []) ⟨by simp, by simp⟩).new 114 [.int .u16 (0 : Int), .int .u16 (0 : Int)]
  have HV := Lib.hid (fun (W : World) => have4_any s al u bl W ha hb true (decide_eq_true ho).symm)
  obtain ⟨M, hM⟩ : ∃ M, M = max s u := ⟨_, rfl⟩
  rw [← hM]
  have HM := Lib.hid hM
  have hME : M ≤ al := by omega
  clear hM
  have w1 : IntKind.u16.wrap (s : Int) = (s : Int) := IntWalk.u16_in _ (by omega)
  have w2 : IntKind.u16.wrap (u : Int) = (u : Int) := IntWalk.u16_in _ (by omega)
  have w3 : IntKind.u16.wrap (al : Int) = (al : Int) := IntWalk.u16_in _ (by omega)
  have w4 : IntKind.u16.wrap (bl : Int) = (bl : Int) := IntWalk.u16_in _ (by omega)
  have w5 : IntKind.u16.wrap ((al : Int) - (M : Int)) = ((al - M : Nat) : Int) := (IntWalk.u16_in _ (by omega)).trans (by omega)
  have j1 : ¬ (bl : Int) < (al : Int) := by omega
  have j2 : ¬ (al : Int) < (bl : Int) := by omega
  have f0 := fun o => S0.free 0 rfl o
  have c0 := S0.cell 0 rfl 0 rfl
  clear h
  by_cases hc : s < u
  · have i1 : (s : Int) < (u : Int) := by omega
    have hm : M = u := by have := HM.out; omega
    subst hm
    go_enter Tryz.func244, Tryz.ntmps244
    go_wp2_with (first
      | (go_at_call 248; (with_reducible refine (HV.out _).mono ?_); rintro ed w1 ⟨rfl, rfl⟩)
      | fail)
    refine bodyPost_ret (v := .tuple #[.bool true, .bool false, .bool false, .int .i64 0, .agg #[.int .u16 (M : Int), .int .u16 ((al - M : Nat) : Int)]]) (by simp [results, Tryz.results244, go_sem]) rfl ⟨rfl, (Kept.refl _ _).alloc _⟩
  · have i1 : ¬ (s : Int) < (u : Int) := by omega
    have hm : M = s := by have := HM.out; omega
    subst hm
    go_enter Tryz.func244, Tryz.ntmps244
    go_wp2_with (first
      | (go_at_call 248; (with_reducible refine (HV.out _).mono ?_); rintro ed w1 ⟨rfl, rfl⟩)
      | fail)
    refine bodyPost_ret (v := .tuple #[.bool true, .bool false, .bool false, .int .i64 0, .agg #[.int .u16 (M : Int), .int .u16 ((al - M : Nat) : Int)]]) (by simp [results, Tryz.results244, go_sem]) rfl ⟨rfl, (Kept.refl _ _).alloc _⟩
end Go.Proofs

namespace Go.Proofs
open Go.RowKit Go.Roar
attribute [local go_sem ↓] Go.wp_at_zero Go.wp_at_succ
theorem haveOv_any (a la b lb : Nat) (w : World) (ha : a + la < 65536) (hb : b + lb < 65536) :
    Calls Tryz.prog 243 #[.agg #[.int .u16 a, .int .u16 la], .agg #[.int .u16 b, .int .u16 lb]] w fun ed w' => ed = .returned (.bool (decide (b ≤ a + la ∧ a ≤ b + lb))) ∧ Mild w w' := by
  go_enter Tryz.func243, Tryz.ntmps243
  go_wp2
  obtain ⟨c1, c2, c3, c4, m0⟩ := boxes2 w 114 (.int .u16 (a : Int)) (.int .u16 (la : Int)) (.int .u16 (b : Int)) (.int .u16 (lb : Int))
  generalize ((w.alloc (.cells #[.int .u16 (a : Int), .int .u16 (la : Int)] 114)).alloc (.cells #[.int .u16 (b : Int), .int .u16 (lb : Int)] 114)) = W at *
  generalize w.heap.size = H at *
  have q1 : IntKind.i64.wrap ((a : Int) + la) = (a : Int) + la := IntWalk.i64_in _ (by omega)
  have q2 : IntKind.i64.wrap ((a : Int) + la + 1) = (a : Int) + la + 1 := IntWalk.i64_in _ (by omega)
  have q3 : IntKind.i64.wrap (b : Int) = (b : Int) := IntWalk.i64_in _ (by omega)
  have q4 : IntKind.i64.wrap ((b : Int) + lb) = (b : Int) + lb := IntWalk.i64_in _ (by omega)
  have q5 : IntKind.i64.wrap ((b : Int) + lb + 1) = (b : Int) + lb + 1 := IntWalk.i64_in _ (by omega)
  have q6 : IntKind.i64.wrap (a : Int) = (a : Int) := IntWalk.i64_in _ (by omega)
  go_region_held3 (fun w' => w'.cell? ⟨H, 0, none⟩ = some (.int .u16 a) ∧ w'.cell? ⟨H, 1, none⟩ = some (.int .u16 la) ∧ w'.cell? ⟨H + 1, 0, none⟩ = some (.int .u16 b) ∧ w'.cell? ⟨H + 1, 1, none⟩ = some (.int .u16 lb) ∧ Mild w w') (first | exact ⟨hk.cell2 id (by first | exact c1 | assumption), hk.cell2 id (by first | exact c2 | assumption), hk.cell2 id (by first | exact c3 | assumption), hk.cell2 id (by first | exact c4 | assumption), Kept.trans (by first | exact m0.drew | assumption) hk⟩ | exact ⟨c1, c2, c3, c4, m0.drew⟩ | exact ⟨c1, c2, c3, c4, m0⟩) (first | (go_at_call 68; refine (last_any _ _ _ (by omega)).mono ?_; rintro ed w' ⟨rfl, hk⟩))
  rename_i hH
  clear c1 c2 c3 c4 m0 hk
  obtain ⟨c1, c2, c3, c4, m0⟩ := hH
  go_wp2
  · go_ret
    have hlt : (a : Int) + la + 1 ≤ b := by assumption
    exact ⟨congrArg (fun x => Ending.returned (Value.bool x)) (decide_eq_false (by omega)).symm, m0⟩
  · have hge : ¬ (a : Int) + la + 1 ≤ (b : Int) := by first | assumption | omega
    go_region_held3 (fun w' => w'.cell? ⟨H, 0, none⟩ = some (.int .u16 a) ∧ w'.cell? ⟨H, 1, none⟩ = some (.int .u16 la) ∧ w'.cell? ⟨H + 1, 0, none⟩ = some (.int .u16 b) ∧ w'.cell? ⟨H + 1, 1, none⟩ = some (.int .u16 lb) ∧ Mild w w') (first | exact ⟨hk.cell2 id (by first | exact c1 | assumption), hk.cell2 id (by first | exact c2 | assumption), hk.cell2 id (by first | exact c3 | assumption), hk.cell2 id (by first | exact c4 | assumption), Kept.trans (by first | exact m0.drew | assumption) hk⟩ | exact ⟨c1, c2, c3, c4, m0.drew⟩ | exact ⟨c1, c2, c3, c4, m0⟩) (first | (go_at_call 68; refine (last_any _ _ _ (by omega)).mono ?_; rintro ed w' ⟨rfl, hk⟩))
    rename_i hH
    go_wp2
    go_ret
    exact ⟨congrArg (fun x => Ending.returned (Value.bool x)) (decide_eq_decide.2 (by omega)), hH.2.2.2.2⟩

set_option maxRecDepth 100000 in
set_option maxHeartbeats 1000000 in
/-- Two intervals that meet: what they have in common. -/
theorem isect_any (r q : Nat × Nat) (w : World) (hr : r.1 ≤ r.2 ∧ r.2 < 65536) (hq : q.1 ≤ q.2 ∧ q.2 < 65536) (h : q.1 ≤ r.2 ∧ r.1 ≤ q.2) :
    Calls Tryz.prog 238 #[.agg #[.int .u16 (r.1 : Int), .int .u16 ((r.2 - r.1 : Nat) : Int)], .agg #[.int .u16 (q.1 : Int), .int .u16 ((q.2 - q.1 : Nat) : Int)]] w fun ed w' => ed = .returned (.tuple #[.agg #[.int .u16 ((max r.1 q.1 : Nat) : Int), .int .u16 ((min r.2 q.2 - max r.1 q.1 : Nat) : Int)], .bool false]) ∧ Mild w w' := by
  have S0 := (((SS.init (w := w) (L := []) ⟨by simp, by simp⟩).new 114 [.int .u16 (r.1 : Int), .int .u16 ((r.2 - r.1 : Nat) : Int)]).new 114 [.int .u16 (q.1 : Int), .int .u16 ((q.2 - q.1 : Nat) : Int)]).new 114 [.int .u16 (0 : Int), .int .u16 (0 : Int)]
  simp only [World.size_alloc] at S0
  have HV := Lib.hid (fun (W : World) => show Calls Tryz.prog 243 #[.agg #[.int .u16 (r.1 : Int), .int .u16 ((r.2 - r.1 : Nat) : Int)], .agg #[.int .u16 (q.1 : Int), .int .u16 ((q.2 - q.1 : Nat) : Int)]] W fun ed w' => ed = .returned (.bool true) ∧ Mild W w' from by
    have := haveOv_any r.1 (r.2 - r.1) q.1 (q.2 - q.1) W (by omega) (by omega)
    rwa [decide_eq_true (by omega)] at this)
  have LR := Lib.hid (fun (W : World) => last_r r W hr)
  have LQ := Lib.hid (fun (W : World) => last_r q W hq)
  obtain ⟨M, hM⟩ : ∃ M, M = max r.1 q.1 := ⟨_, rfl⟩
  obtain ⟨E, hE⟩ : ∃ E, E = min r.2 q.2 := ⟨_, rfl⟩
  rw [← hM, ← hE]
  generalize r.2 - r.1 = la at *
  generalize q.2 - q.1 = lb at *
  have HM := Lib.hid hM
  have HE := Lib.hid hE
  clear hM hE
  have hME : M ≤ E := by have := HM.out; have := HE.out; omega
  have hE6 : E < 65536 := by have := HE.out; omega
  have e1 : IntKind.u16.wrap ((E : Int) - (M : Int)) = ((E - M : Nat) : Int) := (IntWalk.u16_in _ (by omega)).trans (by omega)
  go_enter Tryz.func238, Tryz.ntmps238
  go_upto_region 3 with (first
    | (go_at_call 243; (with_reducible refine (HV.out _).mono ?_); rintro ed w1 ⟨rfl, hk⟩; have S1 := S0.quiet hk; clear hk)
    | fail)
  have c1 := S1.cell 2 rfl 0 rfl
  have c2 := S1.cell 2 rfl 1 rfl
  have c3 := S1.cell 1 rfl 0 rfl
  have c4 := S1.cell 1 rfl 1 rfl
  have c5 := fun o => S1.free 0 rfl o
  have c6 := S1.cell 0 rfl 0 rfl
  have HS1 := Lib.hid S1
  clear S0 S1
  generalize w.heap.size = H at *
  by_cases hc : r.1 < q.1
  · have i1 : (r.1 : Int) < (q.1 : Int) := by omega
    have hm : M = q.1 := by have := HM.out; omega
    subst hm
    have S2 := Lib.hid (HS1.out.store (L := []) 0 (.int .u16 (q.1 : Int)))
    by_cases hd : q.2 < r.2
    · have i2 : (q.2 : Int) < (r.2 : Int) := by omega
      have he : E = q.2 := by have := HE.out; omega
      subst he
      go_upto_region 12 with (first
        | (go_at_call 68; (with_reducible refine (LQ.out _).mono ?_); rintro ed w3 ⟨rfl, hk⟩; have S3 := Lib.hid (S2.out.quiet hk); have d1 := S3.out.cell 2 rfl 0 rfl; have d2 := S3.out.cell 2 rfl 1 rfl; clear hk)
        | (go_at_call 68; (with_reducible refine (LR.out _).mono ?_); rintro ed w4 ⟨rfl, hk⟩; have S4 := Lib.hid (S3.out.quiet hk); have d3 := S4.out.cell 0 rfl 0 rfl; have d4 := S4.out.cell 0 rfl 1 rfl; have d5 := fun o => S4.out.free 0 rfl o; clear hk)
        | fail)
      have S5 := S4.out.store (L := []) 1 (.int .u16 ((q.2 - q.1 : Nat) : Int))
      have g1 := S5.cell 0 rfl 0 rfl
      have g2 := S5.cell 0 rfl 1 rfl
      go_wp2
      refine bodyPost_ret (v := .tuple #[.agg #[.int .u16 (q.1 : Int), .int .u16 ((q.2 - q.1 : Nat) : Int)], .bool false]) (by simp [results, Tryz.results238, go_sem, g1, g2]) rfl ⟨rfl, S5.mild⟩
    · have i2 : ¬ (q.2 : Int) < (r.2 : Int) := by omega
      have he : E = r.2 := by have := HE.out; omega
      subst he
      go_upto_region 12 with (first
        | (go_at_call 68; (with_reducible refine (LQ.out _).mono ?_); rintro ed w3 ⟨rfl, hk⟩; have S3 := Lib.hid (S2.out.quiet hk); have d1 := S3.out.cell 2 rfl 0 rfl; have d2 := S3.out.cell 2 rfl 1 rfl; clear hk)
        | (go_at_call 68; (with_reducible refine (LR.out _).mono ?_); rintro ed w4 ⟨rfl, hk⟩; have S4 := Lib.hid (S3.out.quiet hk); have d3 := S4.out.cell 0 rfl 0 rfl; have d4 := S4.out.cell 0 rfl 1 rfl; have d5 := fun o => S4.out.free 0 rfl o; clear hk)
        | fail)
      have S5 := S4.out.store (L := []) 1 (.int .u16 ((r.2 - q.1 : Nat) : Int))
      have g1 := S5.cell 0 rfl 0 rfl
      have g2 := S5.cell 0 rfl 1 rfl
      go_wp2
      refine bodyPost_ret (v := .tuple #[.agg #[.int .u16 (q.1 : Int), .int .u16 ((r.2 - q.1 : Nat) : Int)], .bool false]) (by simp [results, Tryz.results238, go_sem, g1, g2]) rfl ⟨rfl, S5.mild⟩
  · have i1 : ¬ (r.1 : Int) < (q.1 : Int) := by omega
    have hm : M = r.1 := by have := HM.out; omega
    subst hm
    have S2 := Lib.hid (HS1.out.store (L := []) 0 (.int .u16 (r.1 : Int)))
    by_cases hd : q.2 < r.2
    · have i2 : (q.2 : Int) < (r.2 : Int) := by omega
      have he : E = q.2 := by have := HE.out; omega
      subst he
      go_upto_region 12 with (first
        | (go_at_call 68; (with_reducible refine (LQ.out _).mono ?_); rintro ed w3 ⟨rfl, hk⟩; have S3 := Lib.hid (S2.out.quiet hk); have d1 := S3.out.cell 2 rfl 0 rfl; have d2 := S3.out.cell 2 rfl 1 rfl; clear hk)
        | (go_at_call 68; (with_reducible refine (LR.out _).mono ?_); rintro ed w4 ⟨rfl, hk⟩; have S4 := Lib.hid (S3.out.quiet hk); have d3 := S4.out.cell 0 rfl 0 rfl; have d4 := S4.out.cell 0 rfl 1 rfl; have d5 := fun o => S4.out.free 0 rfl o; clear hk)
        | fail)
      have S5 := S4.out.store (L := []) 1 (.int .u16 ((q.2 - r.1 : Nat) : Int))
      have g1 := S5.cell 0 rfl 0 rfl
      have g2 := S5.cell 0 rfl 1 rfl
      go_wp2
      refine bodyPost_ret (v := .tuple #[.agg #[.int .u16 (r.1 : Int), .int .u16 ((q.2 - r.1 : Nat) : Int)], .bool false]) (by simp [results, Tryz.results238, go_sem, g1, g2]) rfl ⟨rfl, S5.mild⟩
    · have i2 : ¬ (q.2 : Int) < (r.2 : Int) := by omega
      have he : E = r.2 := by have := HE.out; omega
      subst he
      go_upto_region 12 with (first
        | (go_at_call 68; (with_reducible refine (LQ.out _).mono ?_); rintro ed w3 ⟨rfl, hk⟩; have S3 := Lib.hid (S2.out.quiet hk); have d1 := S3.out.cell 2 rfl 0 rfl; have d2 := S3.out.cell 2 rfl 1 rfl; clear hk)
        | (go_at_call 68; (with_reducible refine (LR.out _).mono ?_); rintro ed w4 ⟨rfl, hk⟩; have S4 := Lib.hid (S3.out.quiet hk); have d3 := S4.out.cell 0 rfl 0 rfl; have d4 := S4.out.cell 0 rfl 1 rfl; have d5 := fun o => S4.out.free 0 rfl o; clear hk)
        | fail)
      have S5 := S4.out.store (L := []) 1 (.int .u16 ((r.2 - r.1 : Nat) : Int))
      have g1 := S5.cell 0 rfl 0 rfl
      have g2 := S5.cell 0 rfl 1 rfl
      go_wp2
      refine bodyPost_ret (v := .tuple #[.agg #[.int .u16 (r.1 : Int), .int .u16 ((r.2 - r.1 : Nat) : Int)], .bool false]) (by simp [results, Tryz.results238, go_sem, g1, g2]) rfl ⟨rfl, S5.mild⟩
end Go.Proofs

namespace Go.Proofs
open Go.RowKit Go.Roar
/-- What the search for the next run answers: whether there is none, else a place ahead of which nothing reaches the key. -/
def NextR (rs : List (Nat × Nat)) (start key : Nat) (w : World) (ed : Ending) (w' : World) : Prop :=
  ∃ (k : Nat) (d : Bool), ed = .returned (.tuple #[.int .i64 (k : Int), .bool d]) ∧ Mild w w' ∧ (d = true → start = rs.length) ∧ (d = false → start ≤ k ∧ k < rs.length ∧ ∀ (m : Nat) (q : Nat × Nat), start ≤ m → m < k → rs[m]? = some q → q.2 < key)
set_option maxRecDepth 100000 in
theorem findNext_any (p : Nat) (rs : List (Nat × Nat)) (start key : Nat) (w : World) (hR : RCV w p rs) (hr : RgOK 65536 rs) (h0 : 0 < rs.length) (hk : key ≤ 65536) (hs : start ≤ rs.length) (hl : rs.length ≤ 65536)
    (hprev : ∀ r : Nat × Nat, 0 < start → rs[start - 1]? = some r → r.2 < key) :
    Calls Tryz.prog 245 #[.pointer (some ⟨p, 0, none⟩), .int .i64 (start : Int), .int .i64 (key : Int)] w fun ed w' => NextR rs start key w ed w' := by
  have S := Lib.hid (searchB_any p rs key start w hR hr h0 hk hs hl hprev)
  obtain ⟨g, c, hc, a0, _⟩ := hR
  generalize hn : rs.length = n at *
  have Hn := Lib.hid hn
  clear hn hr hprev
  go_enter Tryz.func245, Tryz.ntmps245
  go_upto_region 2 with (first
    | (go_at_call 241; (with_reducible refine S.out.mono ?_); rintro ed w1 ⟨W, b, z, j, rfl, h1, h2, h3, h4⟩; have H1 := Lib.hid h1; have H2 := Lib.hid h2; have H3 := Lib.hid h3; have H4 := Lib.hid h4; have a1 := h4.cell2 id a0; clear h1 h2 h3 h4)
    | fail)
  have hsj := H1.out.1
  have hjl := H1.out.2.1
  rw [Hn.out] at hjl
  cases b
  · obtain ⟨e1, _⟩ := H3.out rfl
    by_cases hj : j = start
    · have i1 : W < (start : Int) := by omega
      by_cases he : start = n
      · have i2 : (start : Int) = (n : Int) := by omega
        have i3 : ((start : Int) == (n : Int)) = true := by rw [beq_iff_eq]; exact i2
        have He := Lib.hid he
        clear he hj e1
        go_wp2
        go_ret2
        exact ⟨_, true, rfl, H4.out, fun _ => He.out.trans Hn.out.symm, fun h => by cases h⟩
      · have i2 : ¬ (start : Int) = (n : Int) := by omega
        have i3 : ((start : Int) == (n : Int)) = false := by rw [beq_eq_false_iff_ne]; exact i2
        clear hj e1
        go_wp2
        go_ret2
        exact ⟨start, false, rfl, H4.out, (fun h => by cases h), fun _ => ⟨Nat.le_refl _, by rw [Hn.out]; omega, fun m q h1 h2 => by omega⟩⟩
    · obtain ⟨k, hk2⟩ : ∃ k : Nat, W = (k : Int) := ⟨j - 1, by omega⟩
      subst hk2
      have i1 : ¬ (k : Int) < (start : Int) := by omega
      have hkj : k + 1 = j := by omega
      go_wp2
      go_ret2
      exact ⟨k, false, rfl, H4.out, (fun h => by cases h), fun _ => ⟨by omega, by rw [Hn.out]; omega, fun m q h1 h2 h3 => H1.out.2.2.1 m q h1 (by omega) h3⟩⟩
  · obtain ⟨e1, r, hr1, _⟩ := H2.out rfl
    subst e1
    have i1 : ¬ (j : Int) < (start : Int) := by omega
    have hjn : j < n := by have := (List.getElem?_eq_some_iff.1 hr1).1; rw [Hn.out] at this; exact this
    clear hr1
    go_wp2
    go_ret2
    exact ⟨j, false, rfl, H4.out, (fun h => by cases h), fun _ => ⟨hsj, by rw [Hn.out]; exact hjn, fun m q h1 h2 h3 => H1.out.2.2.1 m q h1 h2 h3⟩⟩
end Go.Proofs
