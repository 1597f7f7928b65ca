/-
  spec.little, spec.First.
-/
import Derived.Test.YtbfjpbpohkidoaaGreatDoorSa
import Derived.Test.YtbfjpbpohkidoaaGreatDoorAdb
namespace Go.Roar
open Go.RowKit Go.Proofs
/-- The lowest bytes of a number. -/
def lit (x n : Nat) : List Nat := (List.range n).map fun i => x / 256 ^ i % 256
theorem lit_succ (x n : Nat) : lit x (n + 1) = lit x n ++ [x / 256 ^ n % 256] := by simp [lit, List.range_succ]
theorem lit_length (x n : Nat) : (lit x n).length = n := by simp [lit]
theorem lit_two {x : Nat} (h : x < 65536) : lit x 2 = enc16 x := by
  simp only [lit, enc16, List.range_succ, List.range_zero, List.nil_append, List.cons_append, List.map_cons, List.map_nil]
  congr 1
  · simp
  · congr 1; rw [Nat.pow_one]; omega
theorem lit_four {x : Nat} (h : x < 4294967296) : lit x 4 = enc32 x := by
  simp only [lit, enc32, List.range_succ, List.range_zero, List.nil_append, List.cons_append, List.map_cons, List.map_nil]
  congr 1
  · simp
  · congr 1
    congr 1
    congr 1
    rw [show (256 : Nat) ^ 3 = 16777216 from rfl]; omega
/-- What an append leaves, where the slice is of the function's own. -/
theorem grow_mild {w wr wa w4 : World} {v v' : Value} (hm : Mild w wr) (ka : Mild wr wa) (hg : wa.grownBy w4 v.ownBlock) (hf : ∀ b ∈ blkOf v, w.heap.size ≤ b) (hat : v'.ownBlock = v.ownBlock ∨ v'.ownBlock = some wa.heap.size) :
    Mild w w4 ∧ ∀ b ∈ blkOf v', w.heap.size ≤ b := by
  have z1 := hm.size
  have z2 := ka.size
  refine ⟨Kept.then (hm.trans ka) (Kept.grown (S := fun b => w.heap.size ≤ b) (Kept.refl _ _) hg (fun k hk _ => hf k (by unfold blkOf; rw [hk]; simp))) (fun k hk h => by omega), ?_⟩
  intro b hb
  rcases hat with h | h
  · exact hf b (by unfold blkOf at hb ⊢; rw [← h]; exact hb)
  · unfold blkOf at hb; rw [h] at hb; simp at hb; omega
theorem u8s_append (a b : List Nat) : u8s (a ++ b) = u8s a ++ u8s b := by simp [u8s]
end Go.Roar
namespace Go.Proofs
open Go.RowKit Go.Roar

set_option maxRecDepth 100000 in
set_option maxHeartbeats 2000000 in
theorem little_any (x n : Nat) (w : World) (hx : x < 4294967296) (hn : n ≤ 4) :
    Calls Tryz.prog 13 #[.int .i64 (x : Int), .int .i64 (n : Int)] w fun e w' => ∃ v, e = .returned v ∧ Own w' 1 5 v n (u8s (lit x n)) ∧ Mild w w' ∧ (∀ b ∈ blkOf v, w.heap.size ≤ b) := by
  obtain ⟨iU, u1, u2, u3, u4⟩ := info_parts infoU8
  have m0 : Mild w (w.alloc (.cells #[] 5)) := (Kept.refl _ _).alloc _
  have ow0 : Own (w.alloc (.cells #[] 5)) 1 5 (.slice (some ⟨w.heap.size, 0, none⟩) 0 0) 0 [] := ⟨rfl, .inr ⟨w.heap.size, 0, [], rfl, rfl, by unfold maxLen; omega, Blk.new w _ []⟩⟩
  have M0 := Lib.hid m0
  have W0 := Lib.hid ow0
  clear m0 ow0
  go_enter Tryz.func13, Tryz.ntmps13
  go_wp2
  go_loopw [9, 5] (fun i v wr => ∃ k : Nat, i = .int .i64 k ∧ k ≤ n ∧ Hid (Mild w wr) ∧ Hid (Own wr 1 5 v k (u8s (lit x k))) ∧ Hid (∀ b ∈ blkOf v, w.heap.size ≤ b)) (fun i _ _ => n - (intOf i).toNat)
  case atStart => exact ⟨0, rfl, Nat.zero_le _, M0, W0, Lib.hid (by simp)⟩
  case round =>
    obtain ⟨k, rfl, hk, Hm, Ho, Hf⟩ := hrel
    obtain ⟨A, c, rfl⟩ := Ho.out.shape
    by_cases hlt : k < n
    · have hk4 : k = 0 ∨ k = 1 ∨ k = 2 ∨ k = 3 := by omega
      rcases hk4 with rfl | rfl | rfl | rfl
      · have hq : u8s (lit x (0 + 1)) = u8s (lit x 0) ++ [.int .u8 ((x : Int) % 256)] := by rw [lit_succ, u8s_append]; congr 1; simp [u8s]
        have Hq := Lib.hid hq
        clear hq
        go_wp2_with (first
          | (at_builtin; refine wpList_append_own_at _ rfl _ _ 34 rfl 0 5 iU (.int .u8 0) 1 1 undU8s u1 u2 u3 u4 rfl (by decide) _ 0 (u8s (lit x 0)) rfl (Ho.out.alloc _).toRow ⟨wr.heap.size, 0, none⟩ 1 1 [.int .u8 ((x : Int) % 256)] rfl rfl (cell_one_new _ _ _) (by intro u hu; simp at hu; subst hu; rfl) (by unfold maxLen; omega) (by omega) (Nat.zero_le _) ?_; intro v' w4 hown' hgrow hnil hat))
        have own4 := Own.ofRow hown'
        rw [← Hq.out] at own4
        have kA : Mild wr (wr.alloc (.cells #[.int .u8 ((x : Int) % 256)] 5)) := (Kept.refl _ _).alloc _
        obtain ⟨kG, fG⟩ := grow_mild (v := .slice A 0 c) Hm.out kA hgrow Hf.out hat
        go_roundw
        case rel => exact ⟨0 + 1, by go_num, by omega, Lib.hid kG, Lib.hid own4, Lib.hid fG⟩
        case measure => simp only [intOf]; omega
      · have hq : u8s (lit x (1 + 1)) = u8s (lit x 1) ++ [.int .u8 ((x : Int) / 256 % 256)] := by rw [lit_succ, u8s_append]; congr 1
        have Hq := Lib.hid hq
        clear hq
        go_wp2_with (first
          | (at_builtin; refine wpList_append_own_at _ rfl _ _ 34 rfl 0 5 iU (.int .u8 0) 1 1 undU8s u1 u2 u3 u4 rfl (by decide) _ 1 (u8s (lit x 1)) rfl (Ho.out.alloc _).toRow ⟨wr.heap.size, 0, none⟩ 1 1 [.int .u8 ((x : Int) / 256 % 256)] rfl rfl (cell_one_new _ _ _) (by intro u hu; simp at hu; subst hu; rfl) (by unfold maxLen; omega) (by omega) (Nat.zero_le _) ?_; intro v' w4 hown' hgrow hnil hat))
        have own4 := Own.ofRow hown'
        rw [← Hq.out] at own4
        have kA : Mild wr (wr.alloc (.cells #[.int .u8 ((x : Int) / 256 % 256)] 5)) := (Kept.refl _ _).alloc _
        obtain ⟨kG, fG⟩ := grow_mild (v := .slice A 1 c) Hm.out kA hgrow Hf.out hat
        go_roundw
        case rel => exact ⟨1 + 1, by go_num, by omega, Lib.hid kG, Lib.hid own4, Lib.hid fG⟩
        case measure => simp only [intOf]; omega
      · have hq : u8s (lit x (2 + 1)) = u8s (lit x 2) ++ [.int .u8 ((x : Int) / 65536 % 256)] := by rw [lit_succ, u8s_append]; congr 1
        have Hq := Lib.hid hq
        clear hq
        go_wp2_with (first
          | (at_builtin; refine wpList_append_own_at _ rfl _ _ 34 rfl 0 5 iU (.int .u8 0) 1 1 undU8s u1 u2 u3 u4 rfl (by decide) _ 2 (u8s (lit x 2)) rfl (Ho.out.alloc _).toRow ⟨wr.heap.size, 0, none⟩ 1 1 [.int .u8 ((x : Int) / 65536 % 256)] rfl rfl (cell_one_new _ _ _) (by intro u hu; simp at hu; subst hu; rfl) (by unfold maxLen; omega) (by omega) (Nat.zero_le _) ?_; intro v' w4 hown' hgrow hnil hat))
        have own4 := Own.ofRow hown'
        rw [← Hq.out] at own4
        have kA : Mild wr (wr.alloc (.cells #[.int .u8 ((x : Int) / 65536 % 256)] 5)) := (Kept.refl _ _).alloc _
        obtain ⟨kG, fG⟩ := grow_mild (v := .slice A 2 c) Hm.out kA hgrow Hf.out hat
        go_roundw
        case rel => exact ⟨2 + 1, by go_num, by omega, Lib.hid kG, Lib.hid own4, Lib.hid fG⟩
        case measure => simp only [intOf]; omega
      · have hq : u8s (lit x (3 + 1)) = u8s (lit x 3) ++ [.int .u8 ((x : Int) / 16777216)] := by
          rw [lit_succ, u8s_append]
          congr 1
          simp only [u8s, List.map_cons, List.map_nil]
          congr 1
          exact int_eq (by rw [show (256 : Nat) ^ 3 = 16777216 from rfl]; omega)
        have Hq := Lib.hid hq
        clear hq
        go_wp2_with (first
          | (at_builtin; refine wpList_append_own_at _ rfl _ _ 34 rfl 0 5 iU (.int .u8 0) 1 1 undU8s u1 u2 u3 u4 rfl (by decide) _ 3 (u8s (lit x 3)) rfl (Ho.out.alloc _).toRow ⟨wr.heap.size, 0, none⟩ 1 1 [.int .u8 ((x : Int) / 16777216)] rfl rfl (cell_one_new _ _ _) (by intro u hu; simp at hu; subst hu; rfl) (by unfold maxLen; omega) (by omega) (Nat.zero_le _) ?_; intro v' w4 hown' hgrow hnil hat))
        have own4 := Own.ofRow hown'
        rw [← Hq.out] at own4
        have kA : Mild wr (wr.alloc (.cells #[.int .u8 ((x : Int) / 16777216)] 5)) := (Kept.refl _ _).alloc _
        obtain ⟨kG, fG⟩ := grow_mild (v := .slice A 3 c) Hm.out kA hgrow Hf.out hat
        go_roundw
        case rel => exact ⟨3 + 1, by go_num, by omega, Lib.hid kG, Lib.hid own4, Lib.hid fG⟩
        case measure => simp only [intOf]; omega
    · obtain rfl : k = n := by omega
      go_wp2
      go_ret
      exact ⟨_, rfl, Ho.out, Hm.out, Hf.out⟩
end Go.Proofs
