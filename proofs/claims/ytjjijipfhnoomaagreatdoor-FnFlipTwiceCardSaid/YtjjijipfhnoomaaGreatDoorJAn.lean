/-
  arrayContainer.numberOfRuns: how many runs the numbers of an array container have.
  addHelper16 and newRunContainer16FromArray: the runs of an array of numbers.
  newRunContainer16FromArray: the runs of an array of numbers.
-/
import Derived.Test.YtjjijipfhnoomaaGreatDoorJQpl
import Derived.Test.YtjjijipfhnoomaaGreatDoorKAc
import Derived.Test.YtjjijipfhnoomaaGreatDoorKUni
import Derived.Test.YtjjijipfhnoomaaGreatDoorJSr
namespace Go.Roar
open Go.RowKit
/-- An array container that reads numbers. -/
def ACV (w : World) (p : Nat) (l : List Nat) : Prop := ∃ g c, w.cell? ⟨p, 0, none⟩ = some (.slice (some ⟨g, 0, none⟩) l.length c) ∧ ∀ (i x : Nat), l[i]? = some x → w.cell? ⟨g, i, none⟩ = some (.int .u16 (x : Int))
theorem ACV.mild {w w' : World} {p : Nat} {l : List Nat} (h : ACV w p l) (k : Kept (fun _ => False) w w') : ACV w' p l := by
  obtain ⟨g, c, h0, h1⟩ := h
  exact ⟨g, c, k.cell2 id h0, fun i x hx => k.cell2 id (h1 i x hx)⟩
end Go.Roar
namespace Go.Proofs
open Go.RowKit Go.Roar

set_option maxRecDepth 100000 in
set_option maxHeartbeats 2000000 in
theorem acRuns_any (p : Nat) (l : List Nat) (w : World) (h : ACV w p l) (hs : l.Pairwise (· < ·)) (hb : ∀ x ∈ l, x < 65536) (hn : l.length ≤ 65536) (h0 : 0 < l.length) :
    Calls Tryz.prog 139 #[.pointer (some ⟨p, 0, none⟩)] w fun ed w' => ed = .returned (.int .i64 (((runsOf l).length : Nat) : Int)) ∧ w = w' := by
  obtain ⟨g, c, c0, hc⟩ := h
  have Hc := Lib.hid hc
  have Hs := Lib.hid hs
  have Hb := Lib.hid hb
  clear hc hs hb
  generalize hl : l.length = n at *
  have Hl := Lib.hid hl
  clear hl
  have n0 : ((n : Int) == 0) = false := by rw [beq_eq_false_iff_ne]; omega
  have n1 : ¬ (n : Int) = 0 := by omega
  by_cases hone : n = 1
  · have hr : (runsOf l).length = 1 := by
      obtain ⟨x, rfl⟩ := List.length_eq_one_iff.1 (Hl.out.trans hone)
      rfl
    subst hone
    rw [hr]
    go_enter Tryz.func139, Tryz.ntmps139
    go_wp2
    go_ret
    exact ⟨rfl, rfl⟩
  · have n2 : ((n : Int) == 1) = false := by rw [beq_eq_false_iff_ne]; omega
    have n3 : ¬ (n : Int) = 1 := by omega
    obtain ⟨x0, hx0⟩ : ∃ x, l[0]? = some x := ⟨_, List.getElem?_eq_getElem (by rw [Hl.out]; omega)⟩
    have hst : (runsOf (l.take 1)).length = 1 := by rw [take_one hx0]; rfl
    have Hst := Lib.hid hst
    clear hst hx0
    go_enter Tryz.func139, Tryz.ntmps139
    go_wp2
    go_loopw [7, 2, 4] (fun i a z wr => ∃ (k m : Nat) (Z : Int), i = .int .i64 ((k : Int) + 1) ∧ k + 1 ≤ n ∧ a = .int .i64 (m : Int) ∧ m ≤ k ∧ Hid (m + 1 = (runsOf (l.take (k + 1))).length) ∧ z = .int .u16 Z ∧ w = wr) (fun i _ _ _ => n - (intOf i).toNat)
    case atStart => exact ⟨0, 0, 0, rfl, by omega, rfl, Nat.le_refl _, Lib.hid Hst.out.symm, rfl, rfl⟩
    case round =>
      obtain ⟨k, m, Z, rfl, hk, rfl, hm, Hm, rfl, rfl⟩ := hrel
      by_cases hlt : k + 1 < n
      · obtain ⟨x, hx⟩ : ∃ x, l[k]? = some x := ⟨_, List.getElem?_eq_getElem (by rw [Hl.out]; omega)⟩
        obtain ⟨y, hy⟩ : ∃ y, l[k + 1]? = some y := ⟨_, List.getElem?_eq_getElem (by rw [Hl.out]; omega)⟩
        have c1 := Hc.out k x hx
        have c2 := Hc.out (k + 1) y hy
        have hxy : x < y := by
          obtain ⟨h1, rfl⟩ := List.getElem?_eq_some_iff.1 hx
          obtain ⟨h2, rfl⟩ := List.getElem?_eq_some_iff.1 hy
          exact List.pairwise_iff_getElem.1 Hs.out k (k + 1) h1 h2 (by omega)
        have hyb := Hb.out y (List.mem_of_getElem? hy)
        have hlen := runsOf_len hx hy
        obtain ⟨q, hq⟩ : ∃ q, q = k + 1 := ⟨_, rfl⟩
        rw [← hq] at c2 hlen
        have eq1 : (k : Int) + 1 = (q : Int) := by omega
        have eq2 : (q : Int) - 1 = (k : Int) := by omega
        have i1 : (q : Int) < (n : Int) := by omega
        have i2 : (k : Int) < (n : Int) := by omega
        have wx : IntKind.u16.wrap ((x : Int) + 1) = (x : Int) + 1 := by simp [IntKind.wrap, IntKind.bits, IntKind.signed]; omega
        have Hlen := Lib.hid hlen
        have Hq := Lib.hid hq
        clear hx hy hlen
        by_cases hc : y = x + 1
        · have e1 : ((y : Int) == (x : Int) + 1) = true := by rw [hc]; simp
          have e2 : (y : Int) = (x : Int) + 1 := by omega
          have Hcc := Lib.hid hc
          clear hc e2 hq
          go_wp2
          go_roundw
          case rel => exact ⟨q, m, _, rfl, by have := Hq.out; omega, rfl, by have := Hq.out; omega, Lib.hid (by have h1 := Hlen.out; have h2 := Hm.out; have h3 := Hq.out; rw [if_pos Hcc.out, show k + 2 = q + 1 by omega] at h1; rw [← h3] at h2; omega), rfl, by first | rfl | trivial⟩
          case measure => have := Hq.out; simp only [intOf]; omega
        · have e1 : ((y : Int) == (x : Int) + 1) = false := by rw [beq_eq_false_iff_ne]; omega
          have e2 : ¬ (y : Int) = (x : Int) + 1 := by omega
          have e3 : ¬ (y : Int) < (x : Int) := by omega
          have e4 : ((y : Int) == (x : Int)) = false := by rw [beq_eq_false_iff_ne]; omega
          have e5 : ¬ (y : Int) = (x : Int) := by omega
          have Hcc := Lib.hid hc
          clear hc hq
          go_wp2
          go_roundw
          case rel => exact ⟨q, m + 1, _, rfl, by have := Hq.out; omega, by go_num, by have := Hq.out; omega, Lib.hid (by have h1 := Hlen.out; have h2 := Hm.out; have h3 := Hq.out; rw [if_neg Hcc.out, show k + 2 = q + 1 by omega] at h1; rw [← h3] at h2; omega), rfl, by first | rfl | trivial⟩
          case measure => have := Hq.out; simp only [intOf]; omega
      · obtain rfl : n = k + 1 := by omega
        have eL : l.take (k + 1) = l := by rw [← Hl.out, List.take_length]
        have hm2 := Hm.out
        rw [eL] at hm2
        have Hm2 := Lib.hid hm2
        have i9 : ¬ ((k : Int) + 1 < (k : Int) + 1) := by omega
        clear eL hm2
        go_wp2
        go_ret
        exact ⟨by rw [← Hm2.out]; first | rfl | (congr 2; omega), by first | rfl | trivial⟩
end Go.Proofs

namespace Go.Roar
open Go.RowKit Go.Proofs
/-- The helper: where the run begins that is being told, how long it is, a count, the runs told, the container. -/
def AHL (A z : Nat) (s r n : Int) (v : Value) (m : List (Nat × Nat)) : List HA :=
  [B A 170 [.int .u16 s, .int .u16 r, .int .u16 n, v, .pointer (some ⟨z, 0, none⟩)], O 2 114 v m.length (ivs m)]
/-- What stands goes on as a whole. -/
theorem SS.on {w0 w w' : World} {F0 : List Nat} {L L' : List HA} (h : SS w0 F0 w L) (k : SS w (foot L) w' L') : SS w0 F0 w' L' := by
  have := SS.step (R := []) h (by rw [List.append_nil]) k
  rwa [List.append_nil] at this
end Go.Roar
namespace Go.Proofs
open Go.RowKit Go.Roar
attribute [local go_sem ↓] Go.wp_at_zero Go.wp_at_succ

set_option maxRecDepth 100000 in
set_option maxHeartbeats 2000000 in
theorem storeIval_any (A z : Nat) (s r n : Int) (v : Value) (m : List (Nat × Nat)) (a b : Nat) (w : World) (hm : m.length ≤ 100000) (h : Parts w (AHL A z s r n v m)) :
    Calls Tryz.prog 161 #[.pointer (some ⟨A, 0, none⟩), .int .u16 (a : Int), .int .u16 ((b - a : Nat) : Int)] w fun ed w' => ed = .returned (.tuple #[]) ∧ ∃ v', SS w (foot (AHL A z s r n v m)) w' (AHL A z s r n v' (m ++ [(a, b)])) := by
  obtain ⟨iU, u1, u2, u3, u4⟩ := info_parts infoIv
  have S0 := SS.init h
  generalize foot (AHL A z s r n v m) = F at *
  clear h
  have S1 := S0.new 114 [.int .u16 (a : Int), .int .u16 ((b - a : Nat) : Int)]
  simp only [AHL] at S1
  have HS1 := Lib.hid S1
  have c0 := S1.cell 0 rfl 0 rfl
  have c1 := S1.cell 0 rfl 1 rfl
  have f0 := S1.free 0 rfl 0
  have f1 := S1.free 0 rfl 1
  have d3 := S1.cell 1 rfl 3 rfl
  have g3 := S1.free 1 rfl 3
  clear S0 S1
  go_enter Tryz.func161, Tryz.ntmps161
  go_wp2_with fail
  generalize (w.alloc (Obj.cells #[Value.int IntKind.u16 (a : Int), Value.int IntKind.u16 ((b - a : Nat) : Int)] 114)) = W at *
  generalize w.heap.size = H at *
  have S4 := HS1.out.alloc (.cells #[.int .u16 (a : Int), .int .u16 ((b - a : Nat) : Int)] 114)
  have e0 := S4.cell 0 rfl 0 rfl
  have e1 := S4.cell 0 rfl 1 rfl
  have e3 := S4.cell 1 rfl 3 rfl
  clear S4
  go_region_law (first
    | (refine step_of_list rfl ?_; intro Q9 hQ9; refine wpList_append_ss rfl (.tmp 14) (.tmp 16) 110 rfl 114 iU (.agg #[.int .u16 (0 : Int), .int .u16 (0 : Int)]) 2 4 undIvs u1 u2 u3 u4 rfl (by decide) w F [B H 114 [.int .u16 (a : Int), .int .u16 ((b - a : Nat) : Int)], B A 170 [.int .u16 s, .int .u16 r, .int .u16 n, v, .pointer (some ⟨z, 0, none⟩)]] [] v m.length (ivs m) rfl (SS.alloc HS1.out.drew _) ⟨W.heap.size, 0, none⟩ 1 1 [.int .u16 (a : Int), .int .u16 ((b - a : Nat) : Int)] rfl rfl (Blk.news (Blk.new _ _ _)) (by simp [Value.oneCell']) (by unfold maxLen; omega) (by omega) ?_; intro v2 w2 S2; refine hQ9 _ _ ?_; clear hQ9 Q9; obtain ⟨g2, c2, rfl, _, _⟩ := Own.shape (S2.get (A := O 2 114 v2 (m.length + 1) (ivs m ++ [.int .u16 (a : Int), .int .u16 ((b - a : Nat) : Int)])) (by simp)) (by omega); have f4 := S2.cell 1 rfl 3 rfl; have f5 := S2.free 1 rfl 3))
  all_goals
    go_wp2
    go_end0
    have S3 := SS.store (L := [B H 114 [.int .u16 (a : Int), .int .u16 ((b - a : Nat) : Int)]]) S2 3 (.slice (some ⟨g2, 0, none⟩) (m.length + 1) c2)
    have e2 : ivs (m ++ [(a, b)]) = ivs m ++ [.int .u16 (a : Int), .int .u16 ((b - a : Nat) : Int)] := by simp [ivs]
    refine ⟨rfl, .slice (some ⟨g2, 0, none⟩) (m.length + 1) c2, ?_⟩
    unfold AHL
    rw [show (m ++ [(a, b)]).length = m.length + 1 by simp, e2]
    exact SS.right (L := [B H 114 [.int .u16 (a : Int), .int .u16 ((b - a : Nat) : Int)]]) (M := [_, _]) S3

set_option maxRecDepth 100000 in
set_option maxHeartbeats 2000000 in
/-- One number more: the run goes on, or it is told and a new one begins. -/
theorem ahAdd_any (A z : Nat) (a x y : Nat) (n : Int) (v : Value) (m : List (Nat × Nat)) (K : Int) (w : World) (hay : a ≤ y) (hyx : y < x) (hx : x < 65536) (hm : m.length ≤ 100000) (h : Parts w (AHL A z (a : Int) ((y - a : Nat) : Int) n v m)) :
    Calls Tryz.prog 160 #[.pointer (some ⟨A, 0, none⟩), .int .u16 (x : Int), .int .u16 (y : Int), .int .i64 K] w fun ed w' => ed = .returned (.tuple #[]) ∧ ∃ (v' : Value) (n' : Int),
      SS w (foot (AHL A z (a : Int) ((y - a : Nat) : Int) n v m)) w' (if y + 1 = x then AHL A z (a : Int) ((x - a : Nat) : Int) n' v' m else AHL A z (x : Int) ((x - x : Nat) : Int) n' v' (m ++ [(a, y)])) := by
  have S0 := SS.init h
  generalize hF : foot (AHL A z (a : Int) ((y - a : Nat) : Int) n v m) = F at *
  have HF := Lib.hid hF
  clear h hF
  have HS := Lib.hid S0
  simp only [AHL] at S0
  have c0 := S0.cell 0 rfl 0 rfl
  have c1 := S0.cell 0 rfl 1 rfl
  have c2 := S0.cell 0 rfl 2 rfl
  have f1 := S0.free 0 rfl 1
  have f2 := S0.free 0 rfl 2
  clear S0
  by_cases hc : y + 1 = x
  · simp only [if_pos hc]
    have q1 : IntKind.u16.wrap ((y : Int) + 1) = (x : Int) := by rw [IntWalk.u16_in _ (by omega)]; omega
    have q2 : IntKind.u16.wrap (((y - a : Nat) : Int) + 1) = ((x - a : Nat) : Int) := by rw [IntWalk.u16_in _ (by omega)]; omega
    go_enter Tryz.func160, Tryz.ntmps160
    go_wp2
    go_end0
    have S1 := SS.store (L := []) HS.out 1 (.int .u16 ((x - a : Nat) : Int))
    have S2 := SS.store (L := []) S1 2 (.int .u16 (IntKind.u16.wrap (n + 1)))
    exact ⟨rfl, v, _, S2⟩
  · simp only [if_neg hc]
    have q1 : IntKind.u16.wrap ((y : Int) + 1) = (y : Int) + 1 := IntWalk.u16_in _ (by omega)
    have q2 : ((x : Int) == (y : Int) + 1) = false := by rw [beq_eq_false_iff_ne]; omega
    have q3 : ¬ (x : Int) < (y : Int) := by omega
    have q4 : ((x : Int) == (y : Int)) = false := by rw [beq_eq_false_iff_ne]; omega
    have q5 : ¬ (x : Int) = (y : Int) + 1 := by omega
    have q6 : ¬ (x : Int) = (y : Int) := by omega
    have S1 : Hid (SS w F (w.setCell ⟨A, 2, none⟩ (.int .u16 (IntKind.u16.wrap (n + 1)))) (AHL A z (a : Int) ((y - a : Nat) : Int) (IntKind.u16.wrap (n + 1)) v m)) := Lib.hid (SS.store (L := []) HS.out 2 (.int .u16 (IntKind.u16.wrap (n + 1))))
    have SI := Lib.hid (fun (W : World) (hp : Parts W (AHL A z (a : Int) ((y - a : Nat) : Int) (IntKind.u16.wrap (n + 1)) v m)) => storeIval_any A z (a : Int) ((y - a : Nat) : Int) (IntKind.u16.wrap (n + 1)) v m a y W hm hp)
    have d0 := S1.out.cell 0 rfl 0 rfl
    have d1 := S1.out.cell 0 rfl 1 rfl
    go_enter Tryz.func160, Tryz.ntmps160
    go_wp2_with (first
      | (refine wp_region_tail 9 (by kernel_rfl) (by decide +kernel) ?_; simp only [List.take_succ_cons, List.take_zero, List.drop_succ_cons, List.drop_zero]; repeat still_step; try (refine wpStill_nil ?_; show wpList _ _ _ _ _ _))
      | (go_at_call 161; refine (SI.out _ S1.out.drew.sep).mono ?_; rintro ed w2 ⟨rfl, v2, S2⟩; have S3 := Lib.hid (SS.on S1.out.drew S2); have g0 := S3.out.free 0 rfl 0; have g1 := S3.out.free 0 rfl 1; have g2 := S3.out.cell 0 rfl 0 rfl; have g3 := S3.out.cell 0 rfl 1 rfl)
      | fail)
    go_end0
    have S4 := SS.store (L := []) S3.out 0 (.int .u16 (x : Int))
    have S5 := SS.store (L := []) S4 1 (.int .u16 0)
    have e : ((x - x : Nat) : Int) = 0 := by omega
    rw [e]
    exact ⟨rfl, v2, _, S5⟩
theorem acLenV_any (p : Nat) (a : Option Addr) (n c : Nat) (w : World) (h0 : w.cell? ⟨p, 0, none⟩ = some (.slice a n c)) :
    Calls Tryz.prog 74 #[.pointer (some ⟨p, 0, none⟩)] w fun e w' => e = .returned (.int .i64 (n : Int)) ∧ w = w' := by
  go_enter Tryz.func74, Tryz.ntmps74
  go_wp2
  go_ret
  exact ⟨rfl, rfl⟩
end Go.Proofs

namespace Go.Proofs
open Go.RowKit Go.Roar

set_option maxRecDepth 100000 in
set_option maxHeartbeats 2000000 in
theorem fromArr_any (p : Nat) (l : List Nat) (w : World) (h : ACV w p l) (hs : Rising l) (hb : ∀ x ∈ l, x < 65536) (hn : l.length ≤ 65536) (h2 : 2 ≤ l.length) :
    Calls Tryz.prog 155 #[.pointer (some ⟨p, 0, none⟩)] w fun ed w' => ∃ z v, ed = .returned (.pointer (some ⟨z, 0, none⟩)) ∧ SS w [] w' (RC z v (runsOf l)) := by
  obtain ⟨g, c, c0, hc⟩ := h
  obtain ⟨x0, hx0⟩ : ∃ x, l[0]? = some x := ⟨_, List.getElem?_eq_getElem (by omega)⟩
  have S0 : SS w [] ((w.alloc (.cells #[.slice none 0 0] 112)).alloc (.cells #[.int .u16 0, .int .u16 0, .int .u16 0, .slice none 0 0, .pointer (some ⟨w.heap.size, 0, none⟩)] 170)) (AHL (w.heap.size + 1) w.heap.size 0 0 0 (.slice none 0 0) [] ++ [B w.heap.size 112 [.slice none 0 0]]) := by
    have := ((SS.nothing w).new 112 [.slice none 0 0]).new 170 [.int .u16 0, .int .u16 0, .int .u16 0, .slice none 0 0, .pointer (some ⟨w.heap.size, 0, none⟩)]
    simp only [World.size_alloc] at this
    have := (this.join (SS.bare _ 2 114))
    exact this.swap
  have km := S0.mild
  have a0 := km.cell2 id c0
  have a1 := km.cell2 id (hc 0 x0 hx0)
  have S2 : SS w [] ((w.alloc (.cells #[.slice none 0 0] 112)).alloc (.cells #[.int .u16 (x0 : Int), .int .u16 0, .int .u16 1, .slice none 0 0, .pointer (some ⟨w.heap.size, 0, none⟩)] 170)) (AHL (w.heap.size + 1) w.heap.size (x0 : Int) ((x0 - x0 : Nat) : Int) 1 (.slice none 0 0) [] ++ [B w.heap.size 112 [.slice none 0 0]]) := by
    have := ((SS.nothing w).new 112 [.slice none 0 0]).new 170 [.int .u16 (x0 : Int), .int .u16 0, .int .u16 1, .slice none 0 0, .pointer (some ⟨w.heap.size, 0, none⟩)]
    simp only [World.size_alloc] at this
    have := (this.join (SS.bare _ 2 114))
    rw [show ((x0 - x0 : Nat) : Int) = 0 by omega]
    exact this.swap
  have HS2 := Lib.hid S2
  have Hc := Lib.hid hc
  have Hs := Lib.hid hs
  have Hb := Lib.hid hb
  have Hx0 := Lib.hid hx0
  clear S0 S2 hc hs hb hx0 km
  generalize hl : l.length = n at *
  have Hl := Lib.hid hl
  clear hl
  have AL := Lib.hid (fun (W : World) (k : Mild w W) => acLenV_any p (some ⟨g, 0, none⟩) n c W (k.cell2 id c0))
  have n0 : ((n : Int) == 0) = false := by rw [beq_eq_false_iff_ne]; omega
  have n1 : ((n : Int) == 1) = false := by rw [beq_eq_false_iff_ne]; omega
  have n2 : ¬ (n : Int) = 0 := by omega
  have n3 : ¬ (n : Int) = 1 := by omega
  go_enter Tryz.func155, Tryz.ntmps155
  go_wp2_with (first
    | (go_at_call 74; refine (AL.out _ (((Kept.refl _ _).alloc _).alloc _)).mono ?_; rintro ed w1 ⟨rfl, rfl⟩)
    | fail)
  generalize ((w.alloc (Obj.cells #[Value.slice none 0 0] 112)).alloc (Obj.cells #[Value.int .u16 (x0 : Int), Value.int .u16 0, Value.int .u16 1, Value.slice none 0 0, Value.pointer (some ⟨w.heap.size, 0, none⟩)] 170)) = W1 at *
  generalize w.heap.size = H at *
  clear a0 a1
  go_loopw [8, 7, 6] (fun i pv cu wr => ∃ (k a y : Nat) (m : List (Nat × Nat)) (v : Value) (N P C : Int), i = .int .i64 ((k : Int) + 1) ∧ pv = .int .u16 P ∧ cu = .int .u16 C ∧ k + 1 ≤ n ∧ Hid (l[k]? = some y) ∧ a ≤ y ∧ m.length ≤ k ∧ Hid (runsOf (l.take (k + 1)) = m ++ [(a, y)]) ∧ Hid (SS w [] wr (AHL (H + 1) H (a : Int) ((y - a : Nat) : Int) N v m ++ [B H 112 [.slice none 0 0]]))) (fun i _ _ _ => n - (intOf i).toNat)
  case atStart => exact ⟨0, x0, x0, [], _, _, _, _, rfl, rfl, rfl, by omega, Hx0, Nat.le_refl _, Nat.le_refl _, Lib.hid (by rw [take_one Hx0.out]; rfl), HS2⟩
  case round =>
    obtain ⟨k, a, y, m, v, N, P, C, rfl, rfl, rfl, hk, Hy, hay, hm, Hr, HS⟩ := hrel
    clear HS2
    have km := HS.out.mild
    have a0 := km.cell2 id c0
    have hyb := Hb.out y (List.mem_of_getElem? Hy.out)
    by_cases hlt : k + 1 < n
    · obtain ⟨x, hx⟩ : ∃ x, l[k + 1]? = some x := ⟨_, List.getElem?_eq_getElem (by rw [Hl.out]; omega)⟩
      have a1 := km.cell2 id (Hc.out k y Hy.out)
      have a2 := km.cell2 id (Hc.out (k + 1) x hx)
      have hxy : y < x := rising_lt Hs.out k (k + 1) y x (by omega) Hy.out hx
      have hxb := Hb.out x (List.mem_of_getElem? hx)
      have hm2 : m.length ≤ 100000 := by omega
      have AA := Lib.hid (fun (K : Int) => ahAdd_any (H + 1) H a x y N v m K wr hay hxy hxb hm2 HS.out.left.sep)
      have Hx := Lib.hid hx
      clear hx km
      go_wp2_with (first
        | (go_at_call 160; refine (AA.out _).mono ?_; rintro ed w2 ⟨rfl, v2, n2, S2⟩; have S3 := Lib.hid (HS.out.frame S2); clear S2)
        | fail)
      go_roundw
      case rel =>
        have hr := Hr.out
        rw [take_one Hy.out] at hr
        have hs3 := S3.out
        by_cases hc : y + 1 = x
        · rw [if_pos hc] at hs3
          exact ⟨k + 1, a, x, m, v2, n2, _, _, by go_num, rfl, rfl, by omega, Hx, by omega, by omega, Lib.hid (by rw [take_two Hy.out Hx.out, ← hc]; exact runsOf_on hr), Lib.hid hs3⟩
        · rw [if_neg hc] at hs3
          exact ⟨k + 1, x, x, m ++ [(a, y)], v2, n2, _, _, by go_num, rfl, rfl, by omega, Hx, Nat.le_refl _, by simp; omega, Lib.hid (by rw [take_two Hy.out Hx.out]; exact runsOf_new hr hc), Lib.hid hs3⟩
      case measure => simp only [intOf]; omega
    · have hkn : k + 1 = n := by omega
      have hm2 : m.length ≤ 100000 := by omega
      have SI := Lib.hid (storeIval_any (H + 1) H (a : Int) ((y - a : Nat) : Int) N v m a y wr hm2 HS.out.left.sep)
      have d0 := HS.out.cell 0 rfl 0 rfl
      have d1 := HS.out.cell 0 rfl 1 rfl
      clear km
      go_wp2_with (first
        | (go_at_call 161; refine SI.out.mono ?_; rintro ed w2 ⟨rfl, v2, S2⟩; have S3 := HS.out.frame S2; obtain ⟨g2, c2, rfl, _, _⟩ := Own.shape (S3.get (A := O 2 114 v2 (m ++ [(a, y)]).length (ivs (m ++ [(a, y)]))) (by simp [AHL])) (by simp); have S4 := Lib.hid S3; have d3 := S3.cell 0 rfl 3 rfl; have d4 := S3.cell 2 rfl 0 rfl; have d5 := S3.free 2 rfl 0; clear S2 S3)
        | fail)
      go_ret
      have hr := Hr.out
      rw [hkn, ← Hl.out, List.take_length] at hr
      have S5 := SS.store (L := AHL (H + 1) H (a : Int) ((y - a : Nat) : Int) N (.slice (some ⟨g2, 0, none⟩) (m ++ [(a, y)]).length c2) (m ++ [(a, y)])) (R := []) S4.out 0 (.slice (some ⟨g2, 0, none⟩) (m ++ [(a, y)]).length c2)
      have S6 := SS.right (L := [B (H + 1) 170 [.int .u16 (a : Int), .int .u16 ((y - a : Nat) : Int), .int .u16 N, .slice (some ⟨g2, 0, none⟩) (m ++ [(a, y)]).length c2, .pointer (some ⟨H, 0, none⟩)]]) (M := [O 2 114 (.slice (some ⟨g2, 0, none⟩) (m ++ [(a, y)]).length c2) (m ++ [(a, y)]).length (ivs (m ++ [(a, y)])), B H 112 [.slice (some ⟨g2, 0, none⟩) (m ++ [(a, y)]).length c2]]) S5
      have S7 := S6.swap
      have hv : Value.slice (some ⟨g2, 0, none⟩) (m ++ [(a, y)]).length c2 = Value.slice (some ⟨g2, 0, none⟩) (m.length + 1) c2 := by simp
      rw [hv] at S7
      rw [hr]
      exact ⟨H, _, rfl, S7⟩
end Go.Proofs
