/-
  newBitmapContainer; loadData; an array container's numbers as bits.
  roaring.bitmapContainer.NextSetBit: the next number of a set of bits.
-/
import Derived.Test.YtjjijipfhnoomaaGreatDoorJPop
import Derived.Test.YtjjijipfhnoomaaGreatDoorKAc
import Derived.Test.YtjjijipfhnoomaaGreatDoorJHeap
import Derived.Test.YtjjijipfhnoomaaGreatDoorJQpl
import Derived.Test.YtjjijipfhnoomaaGreatDoorProg
import Derived.Shelf.Spec.TrailingZeros
import Derived.LoopTactic
import Derived.Outline
namespace Go.Roar
open Go.RowKit Go.Proofs
theorem bitOf_zeros (n x : Nat) : bitOf (List.replicate n 0) x = false := by
  unfold bitOf
  rw [List.getD_eq_getElem?_getD, List.getElem?_replicate]
  split <;> simp
theorem made_u64s (n : Nat) : (madeCells (Value.int IntKind.u64 0).cells (n * 1)).toList = u64s (List.replicate n 0) := by
  rw [Nat.mul_one]
  have h := List.eq_replicate_iff.2 ⟨made_length (Value.int IntKind.u64 0) n, made_all (Value.int IntKind.u64 0) n rfl⟩
  rw [h]; simp [u64s]
end Go.Roar
namespace Go.Proofs
open Go.RowKit Go.Roar
theorem infoU64b : (Tryz.prog.info? 23).map (fun i => (i.zero, i.size, i.bytes)) = some (some (.int .u64 0), 1, 8) := by kernel_rfl
theorem undU64sb : Tryz.prog.underlying 120 = some (.slice 23) := by kernel_rfl

set_option maxRecDepth 100000 in
set_option maxHeartbeats 1000000 in
theorem newBitmap_any (w : World) :
    Calls Tryz.prog 64 #[] w fun ed w' => ed = .returned (.pointer (some ⟨w.heap.size, 0, none⟩)) ∧ ∃ g, g = w.heap.size + 1 ∧ Blk w' w.heap.size 122 [.int .i64 0, .slice (some ⟨g, 0, none⟩) 1024 1024] ∧ WV w' g 1024 (List.replicate 1024 0) ∧ Mild w w' := by
  obtain ⟨iU, zz1, zz2, zz3, zz4⟩ := info_parts infoU64b
  have hB := Blk.new w 122 [.int .i64 0, .slice none 0 0]
  have HB := Lib.hid hB
  have hz : (w.alloc (.cells #[.int .i64 0, .slice none 0 0] 122)).heap.size = w.heap.size + 1 := by simp
  have Hz := Lib.hid hz
  clear hB hz
  go_enter Tryz.func64, Tryz.ntmps64
  go_wp2_with (first
    | (at_make; refine wpList_make_blk rfl (.tmp 5) (.tmp 6) 120 rfl 23 iU (.int .u64 0) 1 undU64sb zz1 zz2 zz3 .i64 .i64 _ _ 1024 rfl rfl rfl rfl (by rw [zz4]; omega) (by unfold maxLen; omega) ?_; intro w1 hbk hk hsz; have b1 := HB.out.kept hk id; have e0 := b1.cell 0; have e1 := b1.cell 1; have e2 := b1.free 1; simp only [List.getElem?_cons_zero, List.getElem?_cons_succ] at e0 e1))
  go_ret
  rw [made_u64s] at hbk
  rw [Hz.out] at hbk
  refine ⟨rfl, w.heap.size + 1, rfl, b1.set 1 _, ⟨by simp, fun x hx => ?_, ?_⟩, ?_⟩
  · rw [(List.mem_replicate.1 hx).2]; decide
  · refine ⟨by simp [u64s], .inr ⟨w.heap.size + 1, 0, [], rfl, rfl, by unfold maxLen; omega, ?_⟩⟩
    rw [List.append_nil]
    exact hbk.set_ne (by omega) _ _
  · exact Kept.setCell (p := ⟨w.heap.size, 1, none⟩) (((Kept.refl _ _).alloc _).trans hk) (fun h => absurd h (Nat.lt_irrefl _)) _

theorem shl_one : ∀ a : Fin 64, IntKind.u64.wrap (2 ^ a.val) = ((2 ^ a.val : Nat) : Int) ∧ 2 ^ a.val < 18446744073709551616 := by decide +kernel

set_option maxRecDepth 100000 in
set_option maxHeartbeats 2000000 in
theorem loadData_any (p g q ga n c : Nat) (l : List Nat) (w : World) (hb : ∃ card, Blk w p 122 [card, .slice (some ⟨g, 0, none⟩) 1024 1024]) (h : WV w g 1024 (List.replicate 1024 0))
    (hq : Blk w q 106 [.slice (some ⟨ga, 0, none⟩) n c]) (ho : Own w 1 57 (.slice (some ⟨ga, 0, none⟩) n c) n (u16s l)) (hl : ∀ x ∈ l, x < 65536) (hn : n ≤ 65536) (hpg : p ≠ g) (hqp : q ≠ p) (hqg : q ≠ g) (hap : ga ≠ p) (hag : ga ≠ g) :
    Calls Tryz.prog 65 #[.pointer (some ⟨p, 0, none⟩), .pointer (some ⟨q, 0, none⟩)] w fun ed w' => ed = .returned (.tuple #[]) ∧
      ∃ v, Blk w' p 122 [.int .i64 (n : Int), .slice (some ⟨g, 0, none⟩) 1024 1024] ∧ WV w' g 1024 v ∧ (∀ x, bitOf v x = decide (x ∈ l)) ∧ Kept (fun k => k = g ∨ k = p) w w' := by
  obtain ⟨card, hb⟩ := hb
  have hll : l.length = n := by have := ho.len; simp [u16s] at this; exact this
  have LC := Lib.hid (fun (W : World) (h1 : W.cell? ⟨q, 0, none⟩ = some (.slice (some ⟨ga, 0, none⟩) n c)) (h2 : Own W 1 57 (.slice (some ⟨ga, 0, none⟩) n c) n (u16s l)) => acLen_any q _ l W h1 (by rw [hll]; exact h2))
  rw [hll] at LC
  have c0 := hb.cell 0
  have c1 := hb.cell 1
  have f0 := hb.free 0
  have a0 := hq.cell 0
  simp only [List.getElem?_cons_zero, List.getElem?_cons_succ] at c0 c1 a0
  have HB := Lib.hid hb
  have HV := Lib.hid h
  have HQ := Lib.hid hq
  have HO := Lib.hid ho
  have HL := Lib.hid hl
  have Hll := Lib.hid hll
  have hk1 := Kept.one w p 0 (.int .i64 (n : Int))
  have L1 := Lib.hid (LC.out w a0 ho)
  have L2 := Lib.hid (LC.out _ (hk1.cell2 hqp a0) (ho.kept hk1 (fun b hb h => by simp at hb; omega)))
  have HB1 : Hid (Blk (w.setCell ⟨p, 0, none⟩ (.int .i64 (n : Int))) p 122 [.int .i64 (n : Int), .slice (some ⟨g, 0, none⟩) 1024 1024]) := Lib.hid (hb.set 0 _)
  have HV1 := Lib.hid (h.kept hk1 (fun h => hpg h.symm))
  have HK1 : Hid (Kept (fun k => k = g ∨ k = p) w (w.setCell ⟨p, 0, none⟩ (.int .i64 (n : Int)))) := Lib.hid (hk1.mono (fun _ _ h => .inr h))
  clear hb h hq ho hl hll hk1 LC
  go_enter Tryz.func65, Tryz.ntmps65
  go_wp2_with (first
    | (go_at_call 74; (with_reducible refine L1.out.mono ?_); rintro ed w1 ⟨rfl, rfl⟩)
    | (go_at_call 74; (with_reducible refine L2.out.mono ?_); rintro ed w1 ⟨rfl, rfl⟩)
    | fail)
  go_loopw [5] (fun i wr => ∃ (k : Nat) (v : List Nat), i = .int .i64 k ∧ k ≤ n ∧ Hid (WV wr g 1024 v) ∧ Hid (∀ x, bitOf v x = decide (x ∈ l.take k)) ∧ Hid (Blk wr p 122 [.int .i64 (n : Int), .slice (some ⟨g, 0, none⟩) 1024 1024]) ∧ Hid (Kept (fun k => k = g ∨ k = p) w wr)) (fun i _ => n - (intOf i).toNat)
  case atStart => exact ⟨0, _, rfl, Nat.zero_le _, HV1, Lib.hid (fun x => by rw [bitOf_zeros]; simp), HB1, HK1⟩
  case round =>
    obtain ⟨k, v, rfl, hk, Hv, Hbit, Hb, Hkk⟩ := hrel
    by_cases hlt : k < n
    · obtain ⟨y, hy⟩ : ∃ y, l[k]? = some y := ⟨_, List.getElem?_eq_getElem (by rw [Hll.out]; exact hlt)⟩
      have hyl := HL.out y (List.mem_of_getElem? hy)
      have b0 := Hkk.out.cell2 (show ¬ (q = g ∨ q = p) by omega) a0
      have oo := HO.out.kept Hkk.out (fun b hb h => by simp at hb; omega)
      have b1 : wr.cell? ⟨ga, k, none⟩ = some (.int .u16 (y : Int)) := (Own.cellAt oo (o := k) (by simp [u16s, hy])).1
      have b2 := Hb.out.cell 1
      simp only [List.getElem?_cons_succ, List.getElem?_cons_zero] at b2
      obtain ⟨x, hx⟩ : ∃ x, v[y / 64]? = some x := ⟨_, List.getElem?_eq_getElem (by rw [Hv.out.1]; omega)⟩
      have b3 := Hv.out.cell hx
      have b4 := Hv.out.free (y / 64)
      have hxl := Hv.out.2.1 x (List.mem_of_getElem? hx)
      have i2 : (k : Int) < (n : Int) := by omega
      have i3 : (y : Int) / 64 < 1024 := by omega
      clear oo
      have ht : l.take (k + 1) = l.take k ++ [y] := by
        obtain ⟨h1, rfl⟩ := List.getElem?_eq_some_iff.1 hy
        exact List.take_succ_eq_append_getElem h1
      have hgx : v.getD (y / 64) 0 = x := by rw [List.getD_eq_getElem?_getD, hx]; rfl
      obtain ⟨s1, s2⟩ := shl_one ⟨y % 64, by omega⟩
      dsimp only at s1 s2
      have e1 : bits .or .u64 (x : Int) (IntKind.u64.wrap (2 ^ (y % 64))) = ((x ||| 2 ^ (y % 64) : Nat) : Int) := by rw [s1]; exact or64 _ _ hxl s2
      have hset : v.set (y / 64) (x ||| 2 ^ (y % 64)) = orAt v (y / 64) (2 ^ (y % 64)) := by unfold orAt; rw [hgx]
      have HW := Lib.hid (Hv.out.set (y / 64) (x ||| 2 ^ (y % 64)) (by omega) (Nat.or_lt_two_pow (n := 64) hxl s2))
      have Hbit2 : Hid (∀ z, bitOf (v.set (y / 64) (x ||| 2 ^ (y % 64))) z = decide (z ∈ l.take (k + 1))) := Lib.hid (fun z => by
        rw [hset, orAt_bit (by rw [Hv.out.1]; omega), Hbit.out z, Nat.testBit_two_pow, ht, Bool.eq_iff_iff]
        simp only [Bool.or_eq_true, Bool.and_eq_true, decide_eq_true_eq, List.mem_append, List.mem_singleton]
        constructor
        · rintro (h | ⟨h1, h2⟩)
          · exact .inl h
          · exact .inr (by omega)
        · rintro (h | h)
          · exact .inl h
          · exact .inr ⟨by omega, by omega⟩)
      have HB2 := Lib.hid (Hb.out.set_ne hpg (y / 64) (.int .u64 ((x ||| 2 ^ (y % 64) : Nat) : Int)))
      have HK2 := Lib.hid (Hkk.out.trans ((Kept.one wr g (y / 64) (.int .u64 ((x ||| 2 ^ (y % 64) : Nat) : Int))).mono (fun _ _ h => Or.inl h)))
      have E1 := Lib.hid e1
      clear hx hy ht hgx s1 s2 hset e1
      go_wp2
      rw [E1.out]
      go_roundw
      case rel => exact ⟨k + 1, _, by go_num, by omega, HW, Hbit2, HB2, HK2⟩
      case measure => simp only [intOf]; omega
    · obtain rfl : n = k := by omega
      go_wp2
      go_end0
      exact ⟨rfl, v, Hb.out, Hv.out, fun x => by rw [Hbit.out x, ← Hll.out, List.take_length], Hkk.out⟩

set_option maxRecDepth 100000 in
set_option maxHeartbeats 1000000 in
theorem toBitmap_any (q ga n c : Nat) (l : List Nat) (w : World) (hq : Blk w q 106 [.slice (some ⟨ga, 0, none⟩) n c]) (ho : Own w 1 57 (.slice (some ⟨ga, 0, none⟩) n c) n (u16s l)) (hl : ∀ x ∈ l, x < 65536) (hn : n ≤ 65536) :
    Calls Tryz.prog 53 #[.pointer (some ⟨q, 0, none⟩)] w fun ed w' => ∃ p g v, ed = .returned (.pointer (some ⟨p, 0, none⟩)) ∧ Blk w' p 122 [.int .i64 (n : Int), .slice (some ⟨g, 0, none⟩) 1024 1024] ∧
      WV w' g 1024 v ∧ (∀ x, bitOf v x = decide (x ∈ l)) ∧ Mild w w' ∧ w.heap.size ≤ p ∧ w.heap.size ≤ g ∧ p ≠ g := by
  have N := Lib.hid (newBitmap_any w)
  have hql := hq.lt
  have hal := ho.lt ga (by simp)
  have LD := Lib.hid (fun (g : Nat) (W : World) (hg : g = w.heap.size + 1) (k : Mild w W) (h1 : Blk W w.heap.size 122 [.int .i64 0, .slice (some ⟨g, 0, none⟩) 1024 1024]) (h2 : WV W g 1024 (List.replicate 1024 0)) =>
    loadData_any w.heap.size g q ga n c l W ⟨_, h1⟩ h2 (hq.kept k id) (ho.kept k (fun _ _ => id)) hl hn (by omega) (by omega) (by omega) (by omega) (by omega))
  clear hq ho hl
  generalize hH : w.heap.size = H at *
  have HH := Lib.hid hH
  clear hH
  go_enter Tryz.func53, Tryz.ntmps53
  go_wp2_with (first
    | (go_at_call 64; (with_reducible refine N.out.mono ?_); rintro ed w1 ⟨rfl, g, hg, b1, v1, k1⟩)
    | (go_at_call 65; (with_reducible refine (LD.out g _ hg k1 b1 v1).mono ?_); rintro ed w2 ⟨rfl, v, b2, v2, hb, k2⟩)
    | fail)
  go_ret
  exact ⟨H, g, v, rfl, b2, v2, hb, Kept.then k1 k2 (fun b hb h => by
    have : b < w.heap.size := hb
    have := HH.out
    omega), Nat.le_refl _, by omega, by omega⟩
end Go.Proofs

namespace Go.Proofs
open Go.RowKit Go.Roar

/-- The library's table lies as its initialiser lays it. -/
abbrev Tab (w : World) : Prop := TabAt 0 Lib.deBruijn64tab w

set_option maxHeartbeats 1000000 in
theorem tz_core (x k idx : Nat) (w : World) (hx0 : ((x : Int) == 0) = false)
    (key : IntKind.u64.wrap (bits BinOp.and IntKind.u64 (x : Int) (IntKind.u64.wrap (-(x : Int))) * 285870213051353865) / 288230376151711744 = (idx : Int))
    (hi : idx < 64) (hk : k < 64) (hcell : w.cell? ⟨0, idx, none⟩ = some (.int .u8 k)) :
    Calls Tryz.prog 78 #[.int .u64 x] w fun e w' => e = .returned (.int .i64 k) ∧ w = w' := by
  go_enter Tryz.func78, Tryz.ntmps78
  go_wp2_with (simp only [key])
  go_ret
  exact ⟨rfl, rfl⟩

theorem tz_any (x : Nat) (h0 : x ≠ 0) (hx : x < 18446744073709551616) (w : World) (hT : Tab w) :
    Calls Tryz.prog 78 #[.int .u64 x] w fun e w' => e = .returned (.int .i64 (Lib.ctz 64 x)) ∧ w = w' := by
  obtain ⟨hlow, hk⟩ := Lib.lowest_bit 64 x h0 hx
  obtain ⟨hi, htab⟩ := Lib.deBruijn64_at _ hk
  have hcell := hT _ hi
  rw [htab] at hcell
  exact tz_core x _ _ w (by simp; omega) (tz64_key x _ hx h0 hlow) hi hk hcell
end Go.Proofs
namespace Go.Roar
/-- The next number from i on, or -1. -/
def nsb (ws : List Nat) (i : Nat) : Int := match restFrom (bitOf ws) i with | [] => -1 | x :: _ => (x : Int)

theorem Own.at {w : World} {size : Nat} {e : TypeId} {g n c : Nat} {xs : List Value} (h : Own w size e (.slice (some ⟨g, 0, none⟩) n c) n xs) {o : Nat} {v : Value} (ho : xs[o]? = some v) : w.cell? ⟨g, o, none⟩ = some v := by
  obtain ⟨hl, ⟨hv, _⟩ | ⟨g', k, r, hv, hr, hm, hg⟩⟩ := h
  · simp at hv
  · simp only [Value.slice.injEq, Option.some.injEq, Addr.mk.injEq, and_true, true_and] at hv
    obtain ⟨rfl, rfl⟩ := hv
    exact (hg.cell o).trans (by rw [List.getElem?_append_left (List.getElem?_eq_some_iff.1 ho).1]; exact ho)
end Go.Roar
namespace Go.Proofs
open Go.RowKit Go.Roar
theorem tz_int (X : Int) (v : Nat) (h : X = v) (h0 : v ≠ 0) (hx : v < 18446744073709551616) (w : World) (hT : Tab w) :
    Calls Tryz.prog 78 #[.int .u64 X] w fun e w' => e = .returned (.int .i64 (Lib.ctz 64 v)) ∧ w = w' := by
  subst h; exact tz_any v h0 hx w hT
theorem nsb_cons {ws : List Nat} {i a : Nat} {l : List Nat} (h : restFrom (bitOf ws) i = a :: l) : nsb ws i = a := by unfold nsb; rw [h]
theorem nsb_nil {ws : List Nat} {i : Nat} (h : restFrom (bitOf ws) i = []) : nsb ws i = -1 := by unfold nsb; rw [h]
theorem nsb_word {ws : List Nat} {i q y : Nat} (hy : ws[q]? = some y) (hq : q < 1024) (hlt : y < 18446744073709551616) (h0 : y ≠ 0) (hi : i ≤ 64 * q) (hno : ∀ j, i ≤ j → j < 64 * q → bitOf ws j = false) :
    64 * q + Lib.ctz 64 y < 65536 ∧ nsb ws i = ((64 * q + Lib.ctz 64 y : Nat) : Int) := by
  have := bitOf_here ws (64 * q) y (by omega) (by rw [Nat.mul_div_cancel_left _ (by decide)]; exact hy) hlt (by simpa using h0)
  rw [Nat.mul_mod_right, Nat.pow_zero, Nat.div_one] at this
  exact ⟨this.1, nsb_cons (by rw [restFrom_skip _ i (64 * q) (by omega) hi hno]; exact this.2)⟩

set_option maxRecDepth 100000 in
set_option maxHeartbeats 1000000 in
theorem nsb_any (p g c : Nat) (ws : List Nat) (i : Nat) (w : World) (hl : ws.length = 1024) (hb : ∀ x ∈ ws, x < 18446744073709551616) (hi : i ≤ 65536) (hT : Tab w)
    (hv : w.cell? ⟨p, 1, none⟩ = some (.slice (some ⟨g, 0, none⟩) 1024 c)) (ho : Own w 1 23 (.slice (some ⟨g, 0, none⟩) 1024 c) 1024 (u64s ws)) :
    Calls Tryz.prog 73 #[.pointer (some ⟨p, 0, none⟩), .int .u64 i] w fun e w' => e = .returned (.int .i64 (nsb ws i)) ∧ w = w' := by
  have hcell : ∀ (q x : Nat), ws[q]? = some x → w.cell? ⟨g, q, none⟩ = some (.int .u64 (x : Int)) := fun q x h => ho.at (u64s_at h)
  have TZ := fun (X : Int) (v : Nat) (h : X = v) (h0 : v ≠ 0) (hx : v < 18446744073709551616) => tz_int X v h h0 hx w hT
  have Hb := Lib.hid hb
  have Hl := Lib.hid hl
  have Hcell := Lib.hid hcell
  have HTZ := Lib.hid TZ
  clear hb hl hcell TZ ho hT
  rcases Nat.lt_or_ge i 65536 with h | h
  · obtain ⟨x, hx⟩ : ∃ x, ws[i / 64]? = some x := ⟨ws[i / 64]'(by rw [Hl.out]; omega), List.getElem?_eq_getElem _⟩
    have hc := Hcell.out _ x hx
    have hxb := Lib.hid (Hb.out x (List.mem_of_getElem? hx))
    have Hx := Lib.hid hx
    clear hx
    by_cases hz : x / 2 ^ (i % 64) = 0
    · have e1 : ((x : Int) / 2 ^ (i % 64) != 0) = false := by simp; exact_mod_cast hz
      have Hno := Lib.hid (bitOf_gone ws i x Hx.out hz)
      clear hz
      have hi1 : i / 64 < 1024 := by omega
      have hi2 : i < 64 * (i / 64 + 1) := by omega
      go_enter Tryz.func73, Tryz.ntmps73
      go_wp2_with fail
      generalize hk : i / 64 = k0 at *
      have Hk := Lib.hid hk
      clear hk
      go_loop [5] (fun s => ∃ q : Nat, s = .int .u64 q ∧ k0 + 1 ≤ q ∧ q ≤ 1024 ∧ Hid (∀ j, i ≤ j → j < 64 * q → bitOf ws j = false)) (fun s => 1024 - (intOf s).toNat)
      case atStart => exact ⟨k0 + 1, by rw [← Hk.out]; go_num, Nat.le_refl _, by omega, Hno⟩
      case round =>
        obtain ⟨q, rfl, hq1, hq2, hq3⟩ := hrel
        by_cases hq : q < 1024
        · obtain ⟨y, hy⟩ : ∃ y, ws[q]? = some y := ⟨ws[q]'(by rw [Hl.out]; omega), List.getElem?_eq_getElem _⟩
          have hcy := Hcell.out _ y hy
          have hyb := Lib.hid (Hb.out y (List.mem_of_getElem? hy))
          have Hy := Lib.hid hy
          clear hy
          by_cases hy0 : y = 0
          · subst hy0
            go_wp2
            go_round
            case rel =>
              refine ⟨q + 1, by go_num, by omega, by omega, Lib.hid (fun j h1 h2 => ?_)⟩
              rcases Nat.lt_or_ge j (64 * q) with h3 | h3
              · exact hq3.out j h1 h3
              · exact bitOf_zero ws q Hy.out j h3 h2
            case measure => simp only [intOf]; omega
          · have e2 : ((y : Int) != 0) = true := by simp; omega
            have hw := nsb_word Hy.out hq hyb.out hy0 (by omega) hq3.out
            have hw1 := hw.1
            have Hw := Lib.hid hw.2
            have Hy0 := Lib.hid hy0
            clear hw hy0
            go_wp2_with (go_at_call 78; refine (HTZ.out _ y rfl Hy0.out hyb.out).mono ?_; rintro ed w' ⟨rfl, rfl⟩)
            go_ret
            exact ⟨ret_int (by rw [Hw.out]; omega), rfl⟩
        · obtain rfl : q = 1024 := by omega
          go_wp2
          go_ret
          exact ⟨ret_int (nsb_nil (restFrom_none _ _ (fun j h1 h2 => hq3.out j h1 h2))).symm, rfl⟩
    · have e1 : ((x : Int) / 2 ^ (i % 64) != 0) = true := by simp; exact_mod_cast hz
      have hw := bitOf_here ws i x h Hx.out hxb.out hz
      have hw1 := hw.1
      have Hw := Lib.hid (nsb_cons hw.2)
      have Hz := Lib.hid hz
      clear hw hz
      go_enter Tryz.func73, Tryz.ntmps73
      go_wp2_with (go_at_call 78; refine (HTZ.out _ (x / 2 ^ (i % 64)) (by simp) Hz.out (Nat.lt_of_le_of_lt (Nat.div_le_self _ _) hxb.out)).mono ?_; rintro ed w' ⟨rfl, rfl⟩)
      go_ret
      exact ⟨ret_int (by rw [Hw.out]; omega), rfl⟩
  · obtain rfl : i = 65536 := by omega
    go_enter Tryz.func73, Tryz.ntmps73
    go_wp2
    go_ret
    exact ⟨ret_int (nsb_nil (restFrom_end _ _ (Nat.le_refl _))).symm, rfl⟩
end Go.Proofs
