/-
  newBitmapContainer; loadData; an array container's numbers as bits.
  bitmapContainer.numberOfRuns: the runs of words of bits.
-/
import Derived.Test.YteagcndpegdojaaGreatDoorJPop
import Derived.Test.YteagcndpegdojaaGreatDoorKAc
import Derived.Test.YteagcndpegdojaaGreatDoorJQpl
namespace Go.Roar
open Go.RowKit Go.Proofs
theorem bitOf_zeros (n x : Nat) : bitOf (List.replicate n 0) x = false := by
  unfold bitOf
  rw [List.getD_eq_getElem?_getD, List.getElem?_replicate]
  split <;> simp
theorem made_u64s (n : Nat) : (madeCells (Value.int IntKind.u64 0).cells (n * 1)).toList = u64s (List.replicate n 0) := by
  rw [Nat.mul_one]
  have h := List.eq_replicate_iff.2 ⟨made_length (Value.int IntKind.u64 0) n, made_all (Value.int IntKind.u64 0) n rfl⟩
  rw [h]; simp [u64s]
end Go.Roar
namespace Go.Proofs
open Go.RowKit Go.Roar
theorem infoU64b : (Tryz.prog.info? 62).map (fun i => (i.zero, i.size, i.bytes)) = some (some (.int .u64 0), 1, 8) := by kernel_rfl
theorem undU64sb : Tryz.prog.underlying 141 = some (.slice 62) := by kernel_rfl

set_option maxRecDepth 100000 in
set_option maxHeartbeats 1000000 in
theorem newBitmap_any (w : World) :
    Calls Tryz.prog 69 #[] w fun ed w' => ed = .returned (.pointer (some ⟨w.heap.size, 0, none⟩)) ∧ ∃ g, g = w.heap.size + 1 ∧ Blk w' w.heap.size 143 [.int .i64 0, .slice (some ⟨g, 0, none⟩) 1024 1024] ∧ WV w' g 1024 (List.replicate 1024 0) ∧ Mild w w' := by
  obtain ⟨iU, zz1, zz2, zz3, zz4⟩ := info_parts infoU64b
  have hB := Blk.new w 143 [.int .i64 0, .slice none 0 0]
  have HB := Lib.hid hB
  have hz : (w.alloc (.cells #[.int .i64 0, .slice none 0 0] 143)).heap.size = w.heap.size + 1 := by simp
  have Hz := Lib.hid hz
  clear hB hz
  go_enter Tryz.func69, Tryz.ntmps69
  go_wp2_with (first
    | (at_make; refine wpList_make_blk rfl (.tmp 5) (.tmp 6) 141 rfl 62 iU (.int .u64 0) 1 undU64sb zz1 zz2 zz3 .i64 .i64 _ _ 1024 rfl rfl rfl rfl (by rw [zz4]; omega) (by unfold maxLen; omega) ?_; intro w1 hbk hk hsz; have b1 := HB.out.kept hk id; have e0 := b1.cell 0; have e1 := b1.cell 1; have e2 := b1.free 1; simp only [List.getElem?_cons_zero, List.getElem?_cons_succ] at e0 e1))
  go_ret
  rw [made_u64s] at hbk
  rw [Hz.out] at hbk
  refine ⟨rfl, w.heap.size + 1, rfl, b1.set 1 _, ⟨by simp, fun x hx => ?_, ?_⟩, ?_⟩
  · rw [(List.mem_replicate.1 hx).2]; decide
  · refine ⟨by simp [u64s], .inr ⟨w.heap.size + 1, 0, [], rfl, rfl, by unfold maxLen; omega, ?_⟩⟩
    rw [List.append_nil]
    exact hbk.set_ne (by omega) _ _
  · exact Kept.setCell (p := ⟨w.heap.size, 1, none⟩) (((Kept.refl _ _).alloc _).trans hk) (fun h => absurd h (Nat.lt_irrefl _)) _

theorem shl_one : ∀ a : Fin 64, IntKind.u64.wrap (2 ^ a.val) = ((2 ^ a.val : Nat) : Int) ∧ 2 ^ a.val < 18446744073709551616 := by decide +kernel

set_option maxRecDepth 100000 in
set_option maxHeartbeats 2000000 in
theorem loadData_any (p g q ga n c : Nat) (l : List Nat) (w : World) (hb : ∃ card, Blk w p 143 [card, .slice (some ⟨g, 0, none⟩) 1024 1024]) (h : WV w g 1024 (List.replicate 1024 0))
    (hq : Blk w q 120 [.slice (some ⟨ga, 0, none⟩) n c]) (ho : Own w 1 39 (.slice (some ⟨ga, 0, none⟩) n c) n (u16s l)) (hl : ∀ x ∈ l, x < 65536) (hn : n ≤ 65536) (hpg : p ≠ g) (hqp : q ≠ p) (hqg : q ≠ g) (hap : ga ≠ p) (hag : ga ≠ g) :
    Calls Tryz.prog 78 #[.pointer (some ⟨p, 0, none⟩), .pointer (some ⟨q, 0, none⟩)] w fun ed w' => ed = .returned (.tuple #[]) ∧
      ∃ v, Blk w' p 143 [.int .i64 (n : Int), .slice (some ⟨g, 0, none⟩) 1024 1024] ∧ WV w' g 1024 v ∧ (∀ x, bitOf v x = decide (x ∈ l)) ∧ Kept (fun k => k = g ∨ k = p) w w' := by
  obtain ⟨card, hb⟩ := hb
  have hll : l.length = n := by have := ho.len; simp [u16s] at this; exact this
  have LC := Lib.hid (fun (W : World) (h1 : W.cell? ⟨q, 0, none⟩ = some (.slice (some ⟨ga, 0, none⟩) n c)) (h2 : Own W 1 39 (.slice (some ⟨ga, 0, none⟩) n c) n (u16s l)) => acLen_any q _ l W h1 (by rw [hll]; exact h2))
  rw [hll] at LC
  have c0 := hb.cell 0
  have c1 := hb.cell 1
  have f0 := hb.free 0
  have a0 := hq.cell 0
  simp only [List.getElem?_cons_zero, List.getElem?_cons_succ] at c0 c1 a0
  have HB := Lib.hid hb
  have HV := Lib.hid h
  have HQ := Lib.hid hq
  have HO := Lib.hid ho
  have HL := Lib.hid hl
  have Hll := Lib.hid hll
  have hk1 := Kept.one w p 0 (.int .i64 (n : Int))
  have L1 := Lib.hid (LC.out w a0 ho)
  have L2 := Lib.hid (LC.out _ (hk1.cell2 hqp a0) (ho.kept hk1 (fun b hb h => by simp at hb; omega)))
  have HB1 : Hid (Blk (w.setCell ⟨p, 0, none⟩ (.int .i64 (n : Int))) p 143 [.int .i64 (n : Int), .slice (some ⟨g, 0, none⟩) 1024 1024]) := Lib.hid (hb.set 0 _)
  have HV1 := Lib.hid (h.kept hk1 (fun h => hpg h.symm))
  have HK1 : Hid (Kept (fun k => k = g ∨ k = p) w (w.setCell ⟨p, 0, none⟩ (.int .i64 (n : Int)))) := Lib.hid (hk1.mono (fun _ _ h => .inr h))
  clear hb h hq ho hl hll hk1 LC
  go_enter Tryz.func78, Tryz.ntmps78
  go_wp2_with (first
    | (go_at_call 73; (with_reducible refine L1.out.mono ?_); rintro ed w1 ⟨rfl, rfl⟩)
    | (go_at_call 73; (with_reducible refine L2.out.mono ?_); rintro ed w1 ⟨rfl, rfl⟩)
    | fail)
  go_loopw [5] (fun i wr => ∃ (k : Nat) (v : List Nat), i = .int .i64 k ∧ k ≤ n ∧ Hid (WV wr g 1024 v) ∧ Hid (∀ x, bitOf v x = decide (x ∈ l.take k)) ∧ Hid (Blk wr p 143 [.int .i64 (n : Int), .slice (some ⟨g, 0, none⟩) 1024 1024]) ∧ Hid (Kept (fun k => k = g ∨ k = p) w wr)) (fun i _ => n - (intOf i).toNat)
  case atStart => exact ⟨0, _, rfl, Nat.zero_le _, HV1, Lib.hid (fun x => by rw [bitOf_zeros]; simp), HB1, HK1⟩
  case round =>
    obtain ⟨k, v, rfl, hk, Hv, Hbit, Hb, Hkk⟩ := hrel
    by_cases hlt : k < n
    · obtain ⟨y, hy⟩ : ∃ y, l[k]? = some y := ⟨_, List.getElem?_eq_getElem (by rw [Hll.out]; exact hlt)⟩
      have hyl := HL.out y (List.mem_of_getElem? hy)
      have b0 := Hkk.out.cell2 (show ¬ (q = g ∨ q = p) by omega) a0
      have oo := HO.out.kept Hkk.out (fun b hb h => by simp at hb; omega)
      have b1 : wr.cell? ⟨ga, k, none⟩ = some (.int .u16 (y : Int)) := (Own.cellAt oo (o := k) (by simp [u16s, hy])).1
      have b2 := Hb.out.cell 1
      simp only [List.getElem?_cons_succ, List.getElem?_cons_zero] at b2
      obtain ⟨x, hx⟩ : ∃ x, v[y / 64]? = some x := ⟨_, List.getElem?_eq_getElem (by rw [Hv.out.1]; omega)⟩
      have b3 := Hv.out.cell hx
      have b4 := Hv.out.free (y / 64)
      have hxl := Hv.out.2.1 x (List.mem_of_getElem? hx)
      have i2 : (k : Int) < (n : Int) := by omega
      have i3 : (y : Int) / 64 < 1024 := by omega
      clear oo
      have ht : l.take (k + 1) = l.take k ++ [y] := by
        obtain ⟨h1, rfl⟩ := List.getElem?_eq_some_iff.1 hy
        exact List.take_succ_eq_append_getElem h1
      have hgx : v.getD (y / 64) 0 = x := by rw [List.getD_eq_getElem?_getD, hx]; rfl
      obtain ⟨s1, s2⟩ := shl_one ⟨y % 64, by omega⟩
      dsimp only at s1 s2
      have e1 : bits .or .u64 (x : Int) (IntKind.u64.wrap (2 ^ (y % 64))) = ((x ||| 2 ^ (y % 64) : Nat) : Int) := by rw [s1]; exact or64 _ _ hxl s2
      have hset : v.set (y / 64) (x ||| 2 ^ (y % 64)) = orAt v (y / 64) (2 ^ (y % 64)) := by unfold orAt; rw [hgx]
      have HW := Lib.hid (Hv.out.set (y / 64) (x ||| 2 ^ (y % 64)) (by omega) (Nat.or_lt_two_pow (n := 64) hxl s2))
      have Hbit2 : Hid (∀ z, bitOf (v.set (y / 64) (x ||| 2 ^ (y % 64))) z = decide (z ∈ l.take (k + 1))) := Lib.hid (fun z => by
        rw [hset, orAt_bit (by rw [Hv.out.1]; omega), Hbit.out z, Nat.testBit_two_pow, ht, Bool.eq_iff_iff]
        simp only [Bool.or_eq_true, Bool.and_eq_true, decide_eq_true_eq, List.mem_append, List.mem_singleton]
        constructor
        · rintro (h | ⟨h1, h2⟩)
          · exact .inl h
          · exact .inr (by omega)
        · rintro (h | h)
          · exact .inl h
          · exact .inr ⟨by omega, by omega⟩)
      have HB2 := Lib.hid (Hb.out.set_ne hpg (y / 64) (.int .u64 ((x ||| 2 ^ (y % 64) : Nat) : Int)))
      have HK2 := Lib.hid (Hkk.out.trans ((Kept.one wr g (y / 64) (.int .u64 ((x ||| 2 ^ (y % 64) : Nat) : Int))).mono (fun _ _ h => Or.inl h)))
      have E1 := Lib.hid e1
      clear hx hy ht hgx s1 s2 hset e1
      go_wp2
      rw [E1.out]
      go_roundw
      case rel => exact ⟨k + 1, _, by go_num, by omega, HW, Hbit2, HB2, HK2⟩
      case measure => simp only [intOf]; omega
    · obtain rfl : n = k := by omega
      go_wp2
      go_end0
      exact ⟨rfl, v, Hb.out, Hv.out, fun x => by rw [Hbit.out x, ← Hll.out, List.take_length], Hkk.out⟩

set_option maxRecDepth 100000 in
set_option maxHeartbeats 1000000 in
theorem toBitmap_any (q ga n c : Nat) (l : List Nat) (w : World) (hq : Blk w q 120 [.slice (some ⟨ga, 0, none⟩) n c]) (ho : Own w 1 39 (.slice (some ⟨ga, 0, none⟩) n c) n (u16s l)) (hl : ∀ x ∈ l, x < 65536) (hn : n ≤ 65536) :
    Calls Tryz.prog 74 #[.pointer (some ⟨q, 0, none⟩)] w fun ed w' => ∃ p g v, ed = .returned (.pointer (some ⟨p, 0, none⟩)) ∧ Blk w' p 143 [.int .i64 (n : Int), .slice (some ⟨g, 0, none⟩) 1024 1024] ∧
      WV w' g 1024 v ∧ (∀ x, bitOf v x = decide (x ∈ l)) ∧ Mild w w' ∧ w.heap.size ≤ p ∧ w.heap.size ≤ g ∧ p ≠ g := by
  have N := Lib.hid (newBitmap_any w)
  have hql := hq.lt
  have hal := ho.lt ga (by simp)
  have LD := Lib.hid (fun (g : Nat) (W : World) (hg : g = w.heap.size + 1) (k : Mild w W) (h1 : Blk W w.heap.size 143 [.int .i64 0, .slice (some ⟨g, 0, none⟩) 1024 1024]) (h2 : WV W g 1024 (List.replicate 1024 0)) =>
    loadData_any w.heap.size g q ga n c l W ⟨_, h1⟩ h2 (hq.kept k id) (ho.kept k (fun _ _ => id)) hl hn (by omega) (by omega) (by omega) (by omega) (by omega))
  clear hq ho hl
  generalize hH : w.heap.size = H at *
  have HH := Lib.hid hH
  clear hH
  go_enter Tryz.func74, Tryz.ntmps74
  go_wp2_with (first
    | (go_at_call 69; (with_reducible refine N.out.mono ?_); rintro ed w1 ⟨rfl, g, hg, b1, v1, k1⟩)
    | (go_at_call 78; (with_reducible refine (LD.out g _ hg k1 b1 v1).mono ?_); rintro ed w2 ⟨rfl, v, b2, v2, hb, k2⟩)
    | fail)
  go_ret
  exact ⟨H, g, v, rfl, b2, v2, hb, Kept.then k1 k2 (fun b hb h => by
    have : b < w.heap.size := hb
    have := HH.out
    omega), Nat.le_refl _, by omega, by omega⟩
end Go.Proofs

namespace Go.Proofs
open Go.RowKit Go.Roar

theorem pop_int (X : Int) (v : Nat) (h : X = v) (hx : v < 18446744073709551616) (w : World) :
    Calls Tryz.prog 81 #[.int .u64 X] w fun e w' => e = .returned (.int .i64 ((ones 64 v : Nat) : Int)) ∧ w = w' := by
  subst h; exact pop_any v hx w
theorem xor_max (x : Nat) (hx : x < 18446744073709551616) : 18446744073709551615 ^^^ x = 18446744073709551615 - x := by
  apply Nat.eq_of_testBit_eq
  intro i
  rw [Nat.testBit_xor]
  have e := Nat.testBit_two_pow_sub_succ (n := 64) (x := x) hx i
  rw [show (2 : Nat) ^ 64 - (x + 1) = 18446744073709551615 - x by omega] at e
  rw [e, show (18446744073709551615 : Nat) = 2 ^ 64 - 1 from rfl, Nat.testBit_two_pow_sub_one]
  by_cases hi : i < 64
  · simp [hi]
  · have : x.testBit i = false := Nat.testBit_lt_two_pow (Nat.lt_of_lt_of_le hx (Nat.pow_le_pow_right (n := 2) (i := 64) (by decide) (by omega)))
    simp [hi, this]
theorem not64 (x : Nat) (hx : x < 18446744073709551616) : bits .xor .u64 (if IntKind.u64.signed = true then -1 else IntKind.u64.max) (x : Int) = ((18446744073709551615 - x : Nat) : Int) := by
  have := Go.u64_xor_nat 18446744073709551615 x (by decide) hx
  rw [xor_max x hx] at this
  exact this
theorem endW_int (x : Nat) (hx : x < 18446744073709551616) : bits .and .u64 (bits .xor .u64 (if IntKind.u64.signed = true then -1 else IntKind.u64.max) (x : Int)) (IntKind.u64.wrap ((x : Int) * 2)) = (((18446744073709551615 - x) &&& (2 * x % 18446744073709551616) : Nat) : Int) := by
  have e : IntKind.u64.wrap ((x : Int) * 2) = ((2 * x % 18446744073709551616 : Nat) : Int) := by rw [IntKind.wrap_u64]; omega
  rw [not64 x hx, e]
  exact and64 _ _ (by omega) (Nat.mod_lt _ (by decide))
theorem ends_le (f : Nat → Bool) (m : Nat) : endsTo f m ≤ m := by
  unfold endsTo
  have := List.length_filter_le (fun x => f x && !f (x + 1)) (List.range' 0 m)
  simpa using this
theorem top_sum (m x y o : Nat) (h64 : o ≤ 64) (hm : m ≤ 65536) (hx : x < 18446744073709551616) (hy : y < 18446744073709551616) :
    IntKind.u64.wrap ((m : Int) + IntKind.u64.wrap ((o : Int) + bits .andNot .u64 ((x : Int) / 9223372036854775808) (y : Int))) = ((m + (o + (if x.testBit 63 && !y.testBit 0 then 1 else 0)) : Nat) : Int) := by
  have e0 : (x : Int) / 9223372036854775808 = ((x / 9223372036854775808 : Nat) : Int) := by omega
  have e1 := Go.u64_andNot_nat (x / 9223372036854775808) y (by omega) hy
  have e2 := (top_bit x y hx).resolve_right (by omega)
  rw [e0, e1, e2]
  simp only [IntKind.wrap_u64]
  split <;> simp <;> omega
theorem top_and (x : Nat) (hx : x < 18446744073709551616) : bits .and .u64 (x : Int) 9223372036854775808 = if x.testBit 63 then 9223372036854775808 else 0 := by
  have e := and64 x 9223372036854775808 hx (by decide)
  have e2 : x &&& 9223372036854775808 = if x.testBit 63 then 9223372036854775808 else 0 := by
    apply Nat.eq_of_testBit_eq
    intro i
    rw [Nat.testBit_and, show (9223372036854775808 : Nat) = 2 ^ 63 from rfl, Nat.testBit_two_pow]
    by_cases hi : 63 = i
    · subst hi
      have : Nat.testBit (2 ^ 63) 63 = true := by rw [Nat.testBit_two_pow]; rfl
      cases hq : x.testBit 63
      · simp
      · rw [if_pos rfl, this]; rfl
    · have : Nat.testBit (2 ^ 63) i = false := by rw [Nat.testBit_two_pow]; simp [hi]
      cases hq : x.testBit 63
      · simp [hi]
      · rw [if_pos rfl, this]; simp [hi]
  rw [e2] at e
  rw [show (9223372036854775808 : Int) = ((9223372036854775808 : Nat) : Int) from rfl, e]
  split <;> rfl
theorem ends_step {ws : List Nat} {k x : Nat} (hx : ws[k]? = some x) (hlt : x < 18446744073709551616) :
    endsTo (bitOf ws) (64 * (k + 1)) = endsTo (bitOf ws) (64 * k) + (ones 64 ((18446744073709551615 - x) &&& (2 * x % 18446744073709551616)) + (if x.testBit 63 && !(ws.getD (k + 1) 0).testBit 0 then 1 else 0)) := by
  rw [show 64 * (k + 1) = 64 * k + 64 by omega, endsTo_add, ends_word ws k x hx hlt]

set_option maxRecDepth 100000 in
set_option maxHeartbeats 2000000 in
theorem bcRuns_any (p g c : Nat) (ws : List Nat) (card : Nat) (w : World) (h0 : w.cell? ⟨p, 0, none⟩ = some (.int .i64 (card : Int))) (hc : 0 < card) (h1 : w.cell? ⟨p, 1, none⟩ = some (.slice (some ⟨g, 0, none⟩) 1024 c)) (hv : WV w g c ws) :
    Calls Tryz.prog 213 #[.pointer (some ⟨p, 0, none⟩)] w fun ed w' => ed = .returned (.int .i64 (((runsOf (restFrom (bitOf ws) 0)).length : Nat) : Int)) ∧ w = w' := by
  have hl := hv.1
  have hb := hv.2.1
  have Hc := Lib.hid (fun (i x : Nat) (hx : ws[i]? = some x) => hv.cell hx)
  have Hl := Lib.hid hl
  have Hb := Lib.hid hb
  rw [runs_words hl]
  have n0 : ((card : Int) == 0) = false := by rw [beq_eq_false_iff_ne]; omega
  obtain ⟨x0, hx0⟩ : ∃ x, ws[0]? = some x := ⟨_, List.getElem?_eq_getElem (by omega)⟩
  have c0 := Hc.out 0 x0 hx0
  have Hx0 := Lib.hid hx0
  clear hx0 hl hb hv
  go_enter Tryz.func213, Tryz.ntmps213
  go_wp2
  go_loopw [5, 3, 4] (fun i a z wr => ∃ (k x m : Nat), i = .int .i64 (k : Int) ∧ k ≤ 1023 ∧ a = .int .u64 (m : Int) ∧ m ≤ 64 * k ∧ Hid (m = endsTo (bitOf ws) (64 * k)) ∧ z = .int .u64 (x : Int) ∧ Hid (ws[k]? = some x) ∧ w = wr) (fun i _ _ _ => 1024 - (intOf i).toNat)
  case atStart => exact ⟨0, x0, 0, rfl, by omega, rfl, Nat.le_refl _, Lib.hid rfl, rfl, Hx0, rfl⟩
  case round =>
    obtain ⟨k, x, m, rfl, hk, rfl, hm, Hm, rfl, Hx, rfl⟩ := hrel
    have hxb := Hb.out x (List.mem_of_getElem? Hx.out)
    have hst := ends_step Hx.out hxb
    have hwd : ∃ z, z = (18446744073709551615 - x) &&& (2 * x % 18446744073709551616) := ⟨_, rfl⟩
    obtain ⟨z, hz⟩ := hwd
    have hzb : z < 18446744073709551616 := by rw [hz]; exact Nat.lt_of_le_of_lt Nat.and_le_left (by omega)
    rw [← hz] at hst
    have h64 := ones_le 64 z
    obtain ⟨o, ho⟩ : ∃ o, o = ones 64 z := ⟨_, rfl⟩
    have PI := fun (X : Int) (h : X = z) => pop_int X z h hzb w
    rw [← ho] at hst h64
    simp only [← ho] at PI
    have PI := Lib.hid PI
    have Ho := Lib.hid ho
    clear ho
    by_cases hlt : k < 1023
    · obtain ⟨y, hy⟩ : ∃ y, ws[k + 1]? = some y := ⟨_, List.getElem?_eq_getElem (by rw [Hl.out]; omega)⟩
      have hyb := Hb.out y (List.mem_of_getElem? hy)
      have c1 := Hc.out (k + 1) y hy
      have hg : ws.getD (k + 1) 0 = y := by rw [List.getD_eq_getElem?_getD, hy]; rfl
      rw [hg] at hst
      have Hy := Lib.hid hy
      have Hst := Lib.hid hst
      have Hz := Lib.hid hz
      clear hy hst hz hg
      go_wp2_with (first
        | (go_at_call 81; refine (PI.out _ (by rw [Hz.out]; exact endW_int x hxb)).mono ?_; rintro ed w' ⟨rfl, rfl⟩))
      go_roundw
      case rel => exact ⟨k + 1, y, m + (o + (if x.testBit 63 && !y.testBit 0 then 1 else 0)), by go_num, by omega, int_eq (top_sum m x y o h64 (by have := ends_le (bitOf ws) (64 * k); rw [← Hm.out] at this; omega) hxb hyb), by rw [Hm.out, ← Hst.out]; exact ends_le _ _, Lib.hid (by rw [Hst.out, Hm.out]), rfl, Hy, by first | rfl | trivial⟩
      case measure => simp only [intOf]; omega
    · have Hk := Lib.hid (show k = 1023 by omega)
      have i5 : ¬ (k : Int) < 1023 := by omega
      have hg : ws.getD (k + 1) 0 = 0 := by rw [List.getD_eq_getElem?_getD, List.getElem?_eq_none (by rw [Hl.out]; omega)]; rfl
      rw [hg, ← Hm.out] at hst
      have hn : endsTo (bitOf ws) 65536 = m + (o + (if x.testBit 63 then 1 else 0)) := by
        rw [show (65536 : Nat) = 64 * (k + 1) by rw [Hk.out], hst]; simp
      have Hn := Lib.hid hn
      have Hz := Lib.hid hz
      have hm' : m ≤ 65472 := by rw [Hk.out] at hm; omega
      clear hst hz hg hn
      rcases hq : x.testBit 63
      · have e2 : bits .and .u64 (x : Int) 9223372036854775808 = 0 := by rw [top_and x hxb, hq]; rfl
        have e3 : (bits .and .u64 (x : Int) 9223372036854775808 != 0) = false := by rw [e2]; rfl
        go_wp2_with (first
          | (go_at_call 81; refine (PI.out _ (by rw [Hz.out]; exact endW_int x hxb)).mono ?_; rintro ed w' ⟨rfl, rfl⟩))
        go_ret
        exact ⟨ret_int (by rw [Hn.out, hq]; simp), rfl⟩
      · have e2 : bits .and .u64 (x : Int) 9223372036854775808 = 9223372036854775808 := by rw [top_and x hxb, hq]; rfl
        have e3 : (bits .and .u64 (x : Int) 9223372036854775808 != 0) = true := by rw [e2]; rfl
        go_wp2_with (first
          | (go_at_call 81; refine (PI.out _ (by rw [Hz.out]; exact endW_int x hxb)).mono ?_; rintro ed w' ⟨rfl, rfl⟩))
        go_ret
        exact ⟨ret_int (by rw [Hn.out, hq]; simp; omega), rfl⟩
end Go.Proofs
