/-
  math/bits.OnesCount64: the number of one bits of a word.
  Words of bits: how many bits a range of words has; a range of bits is set.
  setBitmapRange: a range of bits is set.
  bitmapContainer.iaddRange: numbers of a range are added to bits.
-/
import Derived.Test.YtjjijipfhnoomaaGreatDoorJHeap
import Derived.Test.YtjjijipfhnoomaaGreatDoorJQpl
import Derived.Test.YtjjijipfhnoomaaGreatDoorProg
import Derived.Laws.BitsAllLaws
import Derived.Laws.BitsLemmas
import Derived.LoopTactic
import Derived.Outline
import Derived.Deep.DeepCutAuto
import Derived.Deep.RegionWith
import Derived.Deep.AppendLies
namespace Go.Proofs
open Go.RowKit Go.Roar

theorem and64 (a b : Nat) (ha : a < 18446744073709551616) (hb : b < 18446744073709551616) : bits .and .u64 (a : Int) (b : Int) = ((a &&& b : Nat) : Int) :=
  (bits_nat .u64 64 (by decide) (fun n h0 h1 => by rw [IntKind.wrap_u64]; omega) a b ha hb).1

set_option maxHeartbeats 1000000 in
theorem pop_any (x : Nat) (hx : x < 18446744073709551616) (w : World) :
    Calls Tryz.prog 81 #[.int .u64 (x : Int)] w fun e w' => e = .returned (.int .i64 ((ones 64 x : Nat) : Int)) ∧ w = w' := by
  obtain ⟨x1, h1⟩ : ∃ y, y = (x / 2 &&& 6148914691236517205) + (x &&& 6148914691236517205) := ⟨_, rfl⟩
  obtain ⟨x2, h2⟩ : ∃ y, y = (x1 / 4 &&& 3689348814741910323) + (x1 &&& 3689348814741910323) := ⟨_, rfl⟩
  obtain ⟨x3, h3⟩ : ∃ y, y = (x2 / 16 + x2) &&& 1085102592571150095 := ⟨_, rfl⟩
  obtain ⟨x4, h4⟩ : ∃ y, y = x3 + x3 / 256 := ⟨_, rfl⟩
  obtain ⟨x5, h5⟩ : ∃ y, y = x4 + x4 / 65536 := ⟨_, rfl⟩
  obtain ⟨x6, h6⟩ : ∃ y, y = x5 + x5 / 4294967296 := ⟨_, rfl⟩
  obtain ⟨e, b1, b2, b3, b6, b5, b4, b7⟩ := pop_eq x hx x1 x2 x3 x4 x5 x6 h1 h2 h3 h4 h5 h6
  have b2' : x2 < 18446744073709551616 := by omega
  have wrap : ∀ n : Nat, n < 18446744073709551616 → IntKind.u64.wrap (n : Int) = (n : Int) := fun n h => by rw [IntKind.wrap_u64]; omega
  have k1 : IntKind.u64.wrap (bits .and .u64 ((x : Int) / 2) 6148914691236517205 + bits .and .u64 (x : Int) 6148914691236517205) = (x1 : Int) := by
    have e1 := and64 (x / 2) 6148914691236517205 (by omega) (by decide)
    have e2 := and64 x 6148914691236517205 hx (by decide)
    rw [show ((x / 2 : Nat) : Int) = (x : Int) / 2 by omega] at e1
    rw [show bits .and .u64 ((x : Int) / 2) 6148914691236517205 = _ from e1, show bits .and .u64 (x : Int) 6148914691236517205 = _ from e2, ← Int.natCast_add, ← h1]
    exact wrap _ b1
  have k2 : IntKind.u64.wrap (bits .and .u64 ((x1 : Int) / 4) 3689348814741910323 + bits .and .u64 (x1 : Int) 3689348814741910323) = (x2 : Int) := by
    have e1 := and64 (x1 / 4) 3689348814741910323 (by omega) (by decide)
    have e2 := and64 x1 3689348814741910323 b1 (by decide)
    rw [show ((x1 / 4 : Nat) : Int) = (x1 : Int) / 4 by omega] at e1
    rw [show bits .and .u64 ((x1 : Int) / 4) 3689348814741910323 = _ from e1, show bits .and .u64 (x1 : Int) 3689348814741910323 = _ from e2, ← Int.natCast_add, ← h2]
    exact wrap _ b2'
  have k3 : bits .and .u64 (IntKind.u64.wrap ((x2 : Int) / 16 + (x2 : Int))) 1085102592571150095 = (x3 : Int) := by
    have e0 : IntKind.u64.wrap ((x2 : Int) / 16 + (x2 : Int)) = ((x2 / 16 + x2 : Nat) : Int) := by
      rw [show (x2 : Int) / 16 + (x2 : Int) = ((x2 / 16 + x2 : Nat) : Int) by omega]; exact wrap _ b3
    rw [e0, h3]
    exact and64 (x2 / 16 + x2) 1085102592571150095 b3 (by decide)
  have k4 : IntKind.u64.wrap ((x3 : Int) + (x3 : Int) / 256) = (x4 : Int) := by
    rw [show (x3 : Int) + (x3 : Int) / 256 = (x4 : Int) by omega]; exact wrap _ b4
  have k5 : IntKind.u64.wrap ((x4 : Int) + (x4 : Int) / 65536) = (x5 : Int) := by
    rw [show (x4 : Int) + (x4 : Int) / 65536 = (x5 : Int) by omega]; exact wrap _ b5
  have k6 : IntKind.u64.wrap ((x5 : Int) + (x5 : Int) / 4294967296) = (x6 : Int) := by
    rw [show (x5 : Int) + (x5 : Int) / 4294967296 = (x6 : Int) by omega]; exact wrap _ (by omega)
  have k7 : IntKind.i64.wrap (x6 : Int) = (x6 : Int) := IntWalk.i64_in _ (by omega)
  have k8 : bits .and .i64 (x6 : Int) 127 = ((ones 64 x : Nat) : Int) := by
    have := bits_mask .i64 63 (by decide) (fun n h0 h1 => IntWalk.i64_in _ (by omega)) 7 (by decide) (x6 : Int) (by omega) (by omega)
    rw [show (2 : Int) ^ 7 - 1 = 127 from rfl, show (2 : Int) ^ 7 = 128 from rfl] at this
    rw [this]; omega
  clear h1 h2 h3 h4 h5 h6 e b1 b2 b3 b4 b5 b6 b2' wrap
  go_enter Tryz.func81, Tryz.ntmps81
  go_wp2
  go_ret
  exact ⟨by first | rfl | (simp only [k1, k2, k3, k4, k5, k6, k7, k8]), rfl⟩
end Go.Proofs

namespace Go.Roar
open Go.RowKit Go.Proofs
theorem ones_le : ∀ (n x : Nat), ones n x ≤ n
  | 0, _ => Nat.le_refl _
  | n + 1, x => by have := ones_le n (x / 2); simp only [ones]; omega
theorem onesW_le (l : List Nat) : onesW l ≤ 64 * l.length := by
  induction l with
  | nil => simp [onesW]
  | cons a l ih => have := ones_le 64 a; rw [onesW_cons, List.length_cons]; omega
theorem u64s_get {l : List Nat} {i x : Nat} (h : l[i]? = some x) : (u64s l)[i]? = some (.int .u64 (x : Int)) := by simp [u64s, h]
theorem u64s_set (l : List Nat) (i x : Nat) : (u64s l).set i (.int .u64 (x : Int)) = u64s (l.set i x) := by simp [u64s, List.map_set]
/-- Words that lie in a slice of their own. -/
def WV (w : World) (g c : Nat) (ws : List Nat) : Prop := ws.length = 1024 ∧ (∀ x ∈ ws, x < 18446744073709551616) ∧ Own w 1 23 (.slice (some ⟨g, 0, none⟩) 1024 c) 1024 (u64s ws)
theorem WV.kept {S : Nat → Prop} {w w' : World} {g c : Nat} {ws : List Nat} (h : WV w g c ws) (k : Kept S w w') (hg : ¬ S g) : WV w' g c ws := ⟨h.1, h.2.1, h.2.2.kept k (fun b hb => by simp at hb; subst hb; exact hg)⟩
theorem WV.blk {w : World} {g c : Nat} {ws : List Nat} (h : WV w g c ws) : ∃ r, Blk w g 23 (u64s ws ++ r) := by
  obtain ⟨g', k, r, hv, _, _, hb⟩ := h.2.2.open (by omega)
  simp at hv
  obtain ⟨rfl, _⟩ := hv
  exact ⟨r, hb⟩
theorem WV.cell {w : World} {g c : Nat} {ws : List Nat} (h : WV w g c ws) {i x : Nat} (hx : ws[i]? = some x) : w.cell? ⟨g, i, none⟩ = some (.int .u64 (x : Int)) := by
  obtain ⟨r, hb⟩ := h.blk
  have e := u64s_get hx
  exact (hb.cell i).trans (by rw [List.getElem?_append_left (List.getElem?_eq_some_iff.1 e).1]; exact e)
theorem WV.free {w : World} {g c : Nat} {ws : List Nat} (h : WV w g c ws) (i : Nat) : w.frozen? ⟨g, i, none⟩ = false := by
  obtain ⟨r, hb⟩ := h.blk
  exact hb.free i
theorem WV.set {w : World} {g c : Nat} {ws : List Nat} (h : WV w g c ws) (i x : Nat) (hi : i < 1024) (hx : x < 18446744073709551616) : WV (w.setCell ⟨g, i, none⟩ (.int .u64 (x : Int))) g c (ws.set i x) := by
  refine ⟨by rw [List.length_set]; exact h.1, fun y hy => ?_, ?_⟩
  · rcases List.mem_or_eq_of_mem_set hy with hy | rfl
    · exact h.2.1 y hy
    · exact hx
  · obtain ⟨g', k, r, hv, hr, hm, hb⟩ := h.2.2.open (by omega)
    simp at hv
    obtain ⟨rfl, rfl⟩ := hv
    refine ⟨by simp [u64s, h.1], .inr ⟨g, k, r, rfl, hr, hm, ?_⟩⟩
    have := hb.set i (.int .u64 (x : Int))
    rw [List.set_append_left _ _ (by simp [u64s, h.1]; omega), u64s_set] at this
    exact this
end Go.Roar
namespace Go.Proofs
open Go.RowKit Go.Roar

set_option maxRecDepth 100000 in
set_option maxHeartbeats 1000000 in
theorem wordCard_any (g c : Nat) (ws : List Nat) (s e : Nat) (w : World) (h : WV w g c ws) (hse : s < e) (he : e ≤ 65536) :
    Calls Tryz.prog 80 #[.slice (some ⟨g, 0, none⟩) 1024 c, .int .i64 (s : Int), .int .i64 (e : Int)] w fun ed w' => ed = .returned (.int .u64 ((onesW (seg ws (s / 64) ((e - 1) / 64 + 1)) : Nat) : Int)) ∧ w = w' := by
  have H := Lib.hid h
  clear h
  have i1 : ¬ (e : Int) ≤ (s : Int) := by omega
  go_enter Tryz.func80, Tryz.ntmps80
  go_wp2
  go_loopw [10, 7] (fun i a wr => ∃ k : Nat, i = .int .i64 k ∧ s / 64 ≤ k ∧ k ≤ (e - 1) / 64 + 1 ∧ a = .int .u64 ((onesW (seg ws (s / 64) k) : Nat) : Int) ∧ w = wr) (fun i _ _ => (e - 1) / 64 + 1 - (intOf i).toNat)
  case atStart => exact ⟨s / 64, by simp, Nat.le_refl _, by omega, by rw [seg_self]; rfl, rfl⟩
  case round =>
    obtain ⟨k, rfl, k1, k2, rfl, rfl⟩ := hrel
    by_cases hlt : k ≤ (e - 1) / 64
    · obtain ⟨x, hx⟩ : ∃ x, ws[k]? = some x := ⟨_, List.getElem?_eq_getElem (by rw [H.out.1]; omega)⟩
      have c0 := H.out.cell hx
      have hs := seg_succ k1 hx
      have i2 : decide ((k : Int) ≤ ((e : Int) - 1) / 64) = true := by simp; omega
      have i3 : (k : Int) < 1024 := by omega
      have P := Lib.hid (pop_any x (H.out.2.1 x (List.mem_of_getElem? hx)) w)
      have ho := ones_le 64 x
      have hb := onesW_le (seg ws (s / 64) k)
      have hsl : (seg ws (s / 64) k).length ≤ 1024 := by unfold seg; rw [List.length_drop, List.length_take]; omega
      have Hs := Lib.hid hs
      clear hs hx
      generalize onesW (seg ws (s / 64) k) = A at *
      generalize ones 64 x = O at *
      go_wp2_with (first
        | (go_at_call 81; (with_reducible refine P.out.mono ?_); rintro ed w1 ⟨rfl, rfl⟩))
      go_roundw
      case rel => exact ⟨k + 1, by go_num, by omega, by omega, by rw [Hs.out]; go_num, by first | rfl | trivial⟩
      case measure => simp only [intOf]; omega
    · have i2 : decide ((k : Int) ≤ ((e : Int) - 1) / 64) = false := by simp; omega
      go_wp2
      go_ret
      rw [show (e - 1) / 64 + 1 = k by omega]
      exact ⟨rfl, rfl⟩
end Go.Proofs

namespace Go.Proofs
open Go.RowKit Go.Roar

theorem or64 (a b : Nat) (ha : a < 18446744073709551616) (hb : b < 18446744073709551616) : bits .or .u64 (a : Int) (b : Int) = ((a ||| b : Nat) : Int) :=
  (bits_nat .u64 64 (by decide) (fun n h0 h1 => by rw [IntKind.wrap_u64]; omega) a b ha hb).2
theorem neg_rem (e : Nat) : (IntKind.u64.wrap (-(e : Int))).tmod 64 = (((64 - e % 64) % 64 : Nat) : Int) := by
  rw [IntKind.wrap_u64, Int.tmod_eq_emod_of_nonneg (by omega)]; omega
theorem shl_all : ∀ a : Fin 64, IntKind.u64.wrap (18446744073709551615 * 2 ^ a.val) = ((18446744073709551616 - 2 ^ a.val : Nat) : Int) := by decide +kernel
theorem shr_all : ∀ a : Fin 64, (18446744073709551615 : Int) / 2 ^ a.val = ((18446744073709551615 / 2 ^ a.val : Nat) : Int) := by decide +kernel
set_option maxRecDepth 100000 in
set_option maxHeartbeats 2000000 in
theorem setRange_any (g c : Nat) (ws : List Nat) (s e : Nat) (w : World) (h : WV w g c ws) (hse : s < e) (he : e ≤ 65536) :
    Calls Tryz.prog 70 #[.slice (some ⟨g, 0, none⟩) 1024 c, .int .i64 (s : Int), .int .i64 (e : Int)] w fun ed w' => ed = .returned (.tuple #[]) ∧ ∃ ws', WV w' g c ws' ∧ Filled ws ws' s e ∧ Kept (fun k => k = g) w w' := by
  have H := Lib.hid h
  clear h
  have i1 : ¬ (e : Int) ≤ (s : Int) := by omega
  obtain ⟨f, hf⟩ : ∃ f, f = s / 64 := ⟨_, rfl⟩
  obtain ⟨l, hl⟩ : ∃ l, l = (e - 1) / 64 := ⟨_, rfl⟩
  have d1 : (s : Int) / 64 = (f : Int) := by omega
  have d2 : ((e : Int) - 1) / 64 = (l : Int) := by omega
  have hl2 : l < 1024 := by omega
  have hfl : f ≤ l := by omega
  have l1 : (l : Int) < 1024 := by omega
  have l2 : (f : Int) < 1024 := by omega
  obtain ⟨x, hx⟩ : ∃ x, ws[f]? = some x := ⟨_, List.getElem?_eq_getElem (by rw [H.out.1]; omega)⟩
  have c0 := H.out.cell hx
  have f0 := H.out.free f
  have hxl := H.out.2.1 x (List.mem_of_getElem? hx)
  have hgx : ws.getD f 0 = x := by rw [List.getD_eq_getElem?_getD, hx]; rfl
  obtain ⟨cz, hcz⟩ : ∃ cz, cz = (64 - e % 64) % 64 := ⟨_, rfl⟩
  have q1 : (IntKind.u64.wrap (-(e : Int))).tmod 64 = (cz : Int) := by rw [neg_rem e, hcz]
  have q2 := shl_all ⟨s % 64, by omega⟩
  have q3 := shr_all ⟨cz, by omega⟩
  dsimp only at q2 q3
  have hM1 : 18446744073709551616 - 2 ^ (s % 64) < 18446744073709551616 := by have := Nat.two_pow_pos (s % 64); omega
  have hM2 : 18446744073709551615 / 2 ^ cz < 18446744073709551616 := Nat.lt_of_le_of_lt (Nat.div_le_self _ _) (by decide)
  obtain ⟨M1, hM1e⟩ : ∃ M, M = 18446744073709551616 - 2 ^ (s % 64) := ⟨_, rfl⟩
  obtain ⟨M2, hM2e⟩ : ∃ M, M = 18446744073709551615 / 2 ^ cz := ⟨_, rfl⟩
  rw [← hM1e] at q2 hM1
  rw [← hM2e] at q3 hM2
  have q4 : bits .and .u64 (M1 : Int) (M2 : Int) = ((M1 &&& M2 : Nat) : Int) := and64 _ _ hM1 hM2
  have q5 : bits .or .u64 (x : Int) ((M1 &&& M2 : Nat) : Int) = ((x ||| (M1 &&& M2) : Nat) : Int) := or64 _ _ hxl (Nat.lt_of_le_of_lt Nat.and_le_left hM1)
  have q6 : bits .or .u64 (x : Int) (M1 : Int) = ((x ||| M1 : Nat) : Int) := or64 _ _ hxl hM1
  have cz1 : cz < 64 := by omega
  have HM1 := Lib.hid hM1e
  have HM2 := Lib.hid hM2e
  have Hcz := Lib.hid hcz
  have Hgx := Lib.hid hgx
  have Hxl := Lib.hid hxl
  clear hM1e hM2e hcz hgx hxl hx
  have Hf := Lib.hid hf
  have Hl := Lib.hid hl
  clear hf hl
  by_cases hfl2 : f = l
  · subst hfl2
    have hfin := filled_one (ws := ws) (s := s) (e := e) H.out.2.1 hse (by rw [H.out.1, ← Hl.out]; omega) (by rw [← Hf.out, ← Hl.out])
    rw [← Hf.out, ← Hcz.out, ← HM1.out, ← HM2.out] at hfin
    unfold orAt at hfin
    rw [Hgx.out] at hfin
    have HW := Lib.hid (H.out.set f (x ||| (M1 &&& M2)) (by omega) (Nat.or_lt_two_pow (n := 64) Hxl.out (Nat.lt_of_le_of_lt Nat.and_le_left hM1)))
    have HF := Lib.hid hfin
    clear hfin
    go_enter Tryz.func70, Tryz.ntmps70
    go_wp2
    (try simp only [Exit.inBlock, Exit.then]); refine bodyPost_ret (results_none rfl _ _ _) rfl ?_
    exact ⟨rfl, _, HW.out, HF.out, Kept.one _ _ _ _⟩
  · have n1 : ((f : Int) == (l : Int)) = false := by rw [beq_eq_false_iff_ne]; omega
    have n2 : ¬ (f : Int) = (l : Int) := by omega
    have hlo := filled_lo (ws := ws) (s := s) H.out.2.1 (by rw [H.out.1, ← Hf.out]; omega)
    rw [← Hf.out, ← HM1.out] at hlo
    unfold orAt at hlo
    rw [Hgx.out] at hlo
    have HW := Lib.hid (H.out.set f (x ||| M1) (by omega) (Nat.or_lt_two_pow (n := 64) Hxl.out hM1))
    have HF : Hid (Filled ws (ws.set f (x ||| M1)) s (64 * (f + 1))) := Lib.hid (by rw [show 64 * (f + 1) = 64 * f + 64 by omega]; exact hlo)
    clear hlo
    have hsf : s ≤ 64 * (f + 1) := by have := Hf.out; omega
    go_enter Tryz.func70, Tryz.ntmps70
    go_wp2
    go_loopw [8] (fun i wr => ∃ (k : Nat) (v : List Nat), i = .int .i64 k ∧ f + 1 ≤ k ∧ k ≤ l ∧ Hid (WV wr g c v) ∧ Hid (Filled ws v s (64 * k)) ∧ Hid (Kept (fun k => k = g) w wr)) (fun i _ => l - (intOf i).toNat)
    case atStart => exact ⟨f + 1, _, by go_num, Nat.le_refl _, by omega, HW, HF, Lib.hid (Kept.one _ _ _ _)⟩
    case round =>
      obtain ⟨k, v, rfl, k1, k2, Hv, Hfl, Hk⟩ := hrel
      by_cases hlt : k < l
      · obtain ⟨y, hy⟩ : ∃ y, v[k]? = some y := ⟨_, List.getElem?_eq_getElem (by rw [Hv.out.1]; omega)⟩
        have cy := Hv.out.cell hy
        have fy := Hv.out.free k
        have i2 : (k : Int) < (l : Int) := by omega
        have i3 : (k : Int) < 1024 := by omega
        have HW2 := Lib.hid (Hv.out.set k 18446744073709551615 (by omega) (by decide))
        have HF2 := Lib.hid (filled_mid Hfl.out (by omega) (by rw [H.out.1]; omega))
        have HK2 := Lib.hid (Hk.out.trans (Kept.one wr g k (.int .u64 18446744073709551615)))
        clear hy
        go_wp2
        go_roundw
        case rel => exact ⟨k + 1, _, by go_num, by omega, by omega, HW2, HF2, HK2⟩
        case measure => simp only [intOf]; omega
      · obtain rfl : l = k := by omega
        obtain ⟨y, hy⟩ : ∃ y, v[l]? = some y := ⟨_, List.getElem?_eq_getElem (by rw [Hv.out.1]; omega)⟩
        have cy := Hv.out.cell hy
        have fy := Hv.out.free l
        have hyl := Hv.out.2.1 y (List.mem_of_getElem? hy)
        have q7 : bits .or .u64 (y : Int) (M2 : Int) = ((y ||| M2 : Nat) : Int) := or64 _ _ hyl hM2
        have hgy : v.getD l 0 = y := by rw [List.getD_eq_getElem?_getD, hy]; rfl
        have hhi := filled_hi (ws := ws) (v := v) (s := s) (e := e) (by rw [← Hl.out]; exact Hfl.out) (by rw [← Hl.out]; omega) (by omega) (by rw [H.out.1, ← Hl.out]; omega)
        rw [← Hl.out, ← Hcz.out, ← HM2.out] at hhi
        unfold orAt at hhi
        rw [hgy] at hhi
        have HW3 := Lib.hid (Hv.out.set l (y ||| M2) (by omega) (Nat.or_lt_two_pow (n := 64) hyl hM2))
        have HF3 := Lib.hid hhi
        have HK3 := Lib.hid (Hk.out.trans (Kept.one wr g l (.int .u64 ((y ||| M2 : Nat) : Int))))
        clear hy hhi hgy hyl
        go_wp2
        go_end0
        exact ⟨rfl, _, HW3.out, HF3.out, HK3.out⟩
end Go.Proofs

namespace Go.Roar
open Go.RowKit Go.Proofs
theorem filled_more {ws ws' : List Nat} {s e : Nat} (h : Filled ws ws' s e) (h1 : ws.length = 1024) : onesW ws ≤ onesW ws' := by
  rw [← card_words h1, ← card_words (by rw [h.1]; exact h1)]
  unfold restFrom
  rw [← List.countP_eq_length_filter, ← List.countP_eq_length_filter]
  refine List.countP_mono_left fun x _ hx => ?_
  rw [h.2.2 x, hx]; rfl
end Go.Roar
namespace Go.Proofs
open Go.RowKit Go.Roar

set_option maxRecDepth 100000 in
set_option maxHeartbeats 1000000 in
theorem setRC_any (g c : Nat) (ws : List Nat) (s e : Nat) (w : World) (h : WV w g c ws) (hse : s < e) (he : e ≤ 65536) :
    Calls Tryz.prog 79 #[.slice (some ⟨g, 0, none⟩) 1024 c, .int .i64 (s : Int), .int .i64 (e : Int)] w fun ed w' => ∃ ws', ed = .returned (.int .i64 ((onesW ws' - onesW ws : Nat) : Int)) ∧ onesW ws ≤ onesW ws' ∧ WV w' g c ws' ∧ Filled ws ws' s e ∧ Kept (fun k => k = g) w w' := by
  have C1 := Lib.hid (wordCard_any g c ws s e w h hse he)
  have C2 := Lib.hid (setRange_any g c ws s e w h hse he)
  have H := Lib.hid h
  clear h
  generalize hA : onesW (seg ws (s / 64) ((e - 1) / 64 + 1)) = A at *
  have HA := Lib.hid hA
  clear hA
  go_enter Tryz.func79, Tryz.ntmps79
  go_wp2_with (first
    | (go_at_call 80; (with_reducible refine C1.out.mono ?_); rintro ed w1 ⟨rfl, rfl⟩)
    | (go_at_call 70; (with_reducible refine C2.out.mono ?_); rintro ed w1 ⟨rfl, ws', hw, hfl, hk⟩; have C3 := wordCard_any g c ws' s e w1 hw hse he; have hcd := filled_card hfl H.out.2.1 hse; have hmo := filled_more hfl H.out.1; rw [HA.out] at hcd; generalize onesW (seg ws' (s / 64) ((e - 1) / 64 + 1)) = A' at *; have C3' := Lib.hid C3; have HW := Lib.hid hw; have HF := Lib.hid hfl; have HK := Lib.hid hk; have hb1 := onesW_le ws'; have hb2 := hw.1; have hd : (A' : Int) - (A : Int) = ((onesW ws' - onesW ws : Nat) : Int) := (by omega); have hd2 : onesW ws' - onesW ws ≤ 65536 := (by omega); have hmo' := Lib.hid hmo; clear hcd hb1 hb2 hmo; clear C3 hw hfl hk)
    | (go_at_call 80; (with_reducible refine C3'.out.mono ?_); rintro ed w2 ⟨rfl, rfl⟩)
    | fail)
  go_ret
  exact ⟨ws', rfl, hmo'.out, HW.out, HF.out, HK.out⟩

set_option maxRecDepth 100000 in
set_option maxHeartbeats 1000000 in
theorem bcAdd_any (p g c : Nat) (ws : List Nat) (s e : Nat) (w : World) (hb : Blk w p 122 [.int .i64 ((onesW ws : Nat) : Int), .slice (some ⟨g, 0, none⟩) 1024 c]) (h : WV w g c ws) (hpg : p ≠ g) (hse : s < e) (he : e ≤ 65536) :
    Calls Tryz.prog 75 #[.pointer (some ⟨p, 0, none⟩), .int .i64 (s : Int), .int .i64 (e : Int)] w fun ed w' => ed = .returned (.iface 99 (.pointer (some ⟨p, 0, none⟩))) ∧
      ∃ ws', Blk w' p 122 [.int .i64 ((onesW ws' : Nat) : Int), .slice (some ⟨g, 0, none⟩) 1024 c] ∧ WV w' g c ws' ∧ Filled ws ws' s e ∧ Kept (fun k => k = g ∨ k = p) w w' := by
  have C := Lib.hid (setRC_any g c ws s e w.drew ⟨h.1, h.2.1, h.2.2.kept (S := fun _ => False) (Kept.refl _ _).drew (fun _ _ => id)⟩ hse he)
  have c0 := hb.cell 0
  have c1 := hb.cell 1
  simp only [List.getElem?_cons_zero, List.getElem?_cons_succ] at c0 c1
  have HB := Lib.hid hb
  have HV := Lib.hid h
  have hb1 := onesW_le ws
  have hb2 := h.1
  have hb3 : onesW ws ≤ 65536 := by omega
  clear h hb hb1 hb2
  generalize hA : onesW ws = A at *
  have HA := Lib.hid hA
  clear hA
  go_enter Tryz.func75, Tryz.ntmps75
  go_wp2
  go_region_with (first
    | (go_at_call 79; (with_reducible refine C.out.mono ?_); rintro ed w1 ⟨ws', rfl, hmo, hw, hf, hk⟩; have hbl := onesW_le ws'; have hwl := hw.1; have d0 := (HB.out.drew).kept hk hpg; have e0 := d0.cell 0; have e1 := d0.free 0; simp only [List.getElem?_cons_zero] at e0)
    | fail)
  all_goals
    have ev : IntKind.i64.wrap ((A : Int) + ((onesW ws' - A : Nat) : Int)) = ((onesW ws' : Nat) : Int) := by rw [IntWalk.i64_in _ (by omega)]; omega
    rw [ev]
    have hB := d0.set 0 (.int .i64 ((onesW ws' : Nat) : Int))
    have hV := hw.kept (Kept.one w1 p 0 (.int .i64 ((onesW ws' : Nat) : Int))) (fun h => hpg h.symm)
    have k1 : Kept (fun k => k = g ∨ k = p) w w1 := ((Kept.refl (fun k => k = g) w).drew.trans hk).mono (fun _ _ h => .inl h)
    have k2 : Kept (fun k => k = g ∨ k = p) w (w1.setCell ⟨p, 0, none⟩ (.int .i64 ((onesW ws' : Nat) : Int))) := Kept.then k1 (Kept.one w1 p 0 _) (fun _ _ h => .inr h)
    have HB2 := Lib.hid hB
    have HV2 := Lib.hid hV
    have HK2 := Lib.hid k2
    have HF2 := Lib.hid hf
    clear hB hV k1 k2 hf hk hw d0 e0 e1 ev
    go_wp2
    go_ret
    exact ⟨rfl, ws', HB2.out, HV2.out, HF2.out, HK2.out⟩
end Go.Proofs
