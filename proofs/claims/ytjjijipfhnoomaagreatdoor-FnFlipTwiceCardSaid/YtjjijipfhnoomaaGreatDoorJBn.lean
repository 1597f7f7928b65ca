/-
  bitmapContainer.numberOfRuns: the runs of words of bits.
  newRunContainer16FromBitmapContainer: the runs of bits.
-/
import Derived.Test.YtjjijipfhnoomaaGreatDoorJPop
import Derived.Test.YtjjijipfhnoomaaGreatDoorJQpl
import Derived.Test.YtjjijipfhnoomaaGreatDoorJSr
import Derived.Test.YtjjijipfhnoomaaGreatDoorKUni
import Derived.Test.YtjjijipfhnoomaaGreatDoorJNb
namespace Go.Proofs
open Go.RowKit Go.Roar

theorem pop_int (X : Int) (v : Nat) (h : X = v) (hx : v < 18446744073709551616) (w : World) :
    Calls Tryz.prog 81 #[.int .u64 X] w fun e w' => e = .returned (.int .i64 ((ones 64 v : Nat) : Int)) ∧ w = w' := by
  subst h; exact pop_any v hx w
theorem xor_max (x : Nat) (hx : x < 18446744073709551616) : 18446744073709551615 ^^^ x = 18446744073709551615 - x := by
  apply Nat.eq_of_testBit_eq
  intro i
  rw [Nat.testBit_xor]
  have e := Nat.testBit_two_pow_sub_succ (n := 64) (x := x) hx i
  rw [show (2 : Nat) ^ 64 - (x + 1) = 18446744073709551615 - x by omega] at e
  rw [e, show (18446744073709551615 : Nat) = 2 ^ 64 - 1 from rfl, Nat.testBit_two_pow_sub_one]
  by_cases hi : i < 64
  · simp [hi]
  · have : x.testBit i = false := Nat.testBit_lt_two_pow (Nat.lt_of_lt_of_le hx (Nat.pow_le_pow_right (n := 2) (i := 64) (by decide) (by omega)))
    simp [hi, this]
theorem not64 (x : Nat) (hx : x < 18446744073709551616) : bits .xor .u64 (if IntKind.u64.signed = true then -1 else IntKind.u64.max) (x : Int) = ((18446744073709551615 - x : Nat) : Int) := by
  have := Go.u64_xor_nat 18446744073709551615 x (by decide) hx
  rw [xor_max x hx] at this
  exact this
theorem endW_int (x : Nat) (hx : x < 18446744073709551616) : bits .and .u64 (bits .xor .u64 (if IntKind.u64.signed = true then -1 else IntKind.u64.max) (x : Int)) (IntKind.u64.wrap ((x : Int) * 2)) = (((18446744073709551615 - x) &&& (2 * x % 18446744073709551616) : Nat) : Int) := by
  have e : IntKind.u64.wrap ((x : Int) * 2) = ((2 * x % 18446744073709551616 : Nat) : Int) := by rw [IntKind.wrap_u64]; omega
  rw [not64 x hx, e]
  exact and64 _ _ (by omega) (Nat.mod_lt _ (by decide))
theorem ends_le (f : Nat → Bool) (m : Nat) : endsTo f m ≤ m := by
  unfold endsTo
  have := List.length_filter_le (fun x => f x && !f (x + 1)) (List.range' 0 m)
  simpa using this
theorem top_sum (m x y o : Nat) (h64 : o ≤ 64) (hm : m ≤ 65536) (hx : x < 18446744073709551616) (hy : y < 18446744073709551616) :
    IntKind.u64.wrap ((m : Int) + IntKind.u64.wrap ((o : Int) + bits .andNot .u64 ((x : Int) / 9223372036854775808) (y : Int))) = ((m + (o + (if x.testBit 63 && !y.testBit 0 then 1 else 0)) : Nat) : Int) := by
  have e0 : (x : Int) / 9223372036854775808 = ((x / 9223372036854775808 : Nat) : Int) := by omega
  have e1 := Go.u64_andNot_nat (x / 9223372036854775808) y (by omega) hy
  have e2 := (top_bit x y hx).resolve_right (by omega)
  rw [e0, e1, e2]
  simp only [IntKind.wrap_u64]
  split <;> simp <;> omega
theorem top_and (x : Nat) (hx : x < 18446744073709551616) : bits .and .u64 (x : Int) 9223372036854775808 = if x.testBit 63 then 9223372036854775808 else 0 := by
  have e := and64 x 9223372036854775808 hx (by decide)
  have e2 : x &&& 9223372036854775808 = if x.testBit 63 then 9223372036854775808 else 0 := by
    apply Nat.eq_of_testBit_eq
    intro i
    rw [Nat.testBit_and, show (9223372036854775808 : Nat) = 2 ^ 63 from rfl, Nat.testBit_two_pow]
    by_cases hi : 63 = i
    · subst hi
      have : Nat.testBit (2 ^ 63) 63 = true := by rw [Nat.testBit_two_pow]; rfl
      cases hq : x.testBit 63
      · simp
      · rw [if_pos rfl, this]; rfl
    · have : Nat.testBit (2 ^ 63) i = false := by rw [Nat.testBit_two_pow]; simp [hi]
      cases hq : x.testBit 63
      · simp [hi]
      · rw [if_pos rfl, this]; simp [hi]
  rw [e2] at e
  rw [show (9223372036854775808 : Int) = ((9223372036854775808 : Nat) : Int) from rfl, e]
  split <;> rfl
theorem ends_step {ws : List Nat} {k x : Nat} (hx : ws[k]? = some x) (hlt : x < 18446744073709551616) :
    endsTo (bitOf ws) (64 * (k + 1)) = endsTo (bitOf ws) (64 * k) + (ones 64 ((18446744073709551615 - x) &&& (2 * x % 18446744073709551616)) + (if x.testBit 63 && !(ws.getD (k + 1) 0).testBit 0 then 1 else 0)) := by
  rw [show 64 * (k + 1) = 64 * k + 64 by omega, endsTo_add, ends_word ws k x hx hlt]

set_option maxRecDepth 100000 in
set_option maxHeartbeats 2000000 in
theorem bcRuns_any (p g c : Nat) (ws : List Nat) (card : Nat) (w : World) (h0 : w.cell? ⟨p, 0, none⟩ = some (.int .i64 (card : Int))) (hc : 0 < card) (h1 : w.cell? ⟨p, 1, none⟩ = some (.slice (some ⟨g, 0, none⟩) 1024 c)) (hv : WV w g c ws) :
    Calls Tryz.prog 288 #[.pointer (some ⟨p, 0, none⟩)] w fun ed w' => ed = .returned (.int .i64 (((runsOf (restFrom (bitOf ws) 0)).length : Nat) : Int)) ∧ w = w' := by
  have hl := hv.1
  have hb := hv.2.1
  have Hc := Lib.hid (fun (i x : Nat) (hx : ws[i]? = some x) => hv.cell hx)
  have Hl := Lib.hid hl
  have Hb := Lib.hid hb
  rw [runs_words hl]
  have n0 : ((card : Int) == 0) = false := by rw [beq_eq_false_iff_ne]; omega
  obtain ⟨x0, hx0⟩ : ∃ x, ws[0]? = some x := ⟨_, List.getElem?_eq_getElem (by omega)⟩
  have c0 := Hc.out 0 x0 hx0
  have Hx0 := Lib.hid hx0
  clear hx0 hl hb hv
  go_enter Tryz.func288, Tryz.ntmps288
  go_wp2
  go_loopw [5, 3, 4] (fun i a z wr => ∃ (k x m : Nat), i = .int .i64 (k : Int) ∧ k ≤ 1023 ∧ a = .int .u64 (m : Int) ∧ m ≤ 64 * k ∧ Hid (m = endsTo (bitOf ws) (64 * k)) ∧ z = .int .u64 (x : Int) ∧ Hid (ws[k]? = some x) ∧ w = wr) (fun i _ _ _ => 1024 - (intOf i).toNat)
  case atStart => exact ⟨0, x0, 0, rfl, by omega, rfl, Nat.le_refl _, Lib.hid rfl, rfl, Hx0, rfl⟩
  case round =>
    obtain ⟨k, x, m, rfl, hk, rfl, hm, Hm, rfl, Hx, rfl⟩ := hrel
    have hxb := Hb.out x (List.mem_of_getElem? Hx.out)
    have hst := ends_step Hx.out hxb
    have hwd : ∃ z, z = (18446744073709551615 - x) &&& (2 * x % 18446744073709551616) := ⟨_, rfl⟩
    obtain ⟨z, hz⟩ := hwd
    have hzb : z < 18446744073709551616 := by rw [hz]; exact Nat.lt_of_le_of_lt Nat.and_le_left (by omega)
    rw [← hz] at hst
    have h64 := ones_le 64 z
    obtain ⟨o, ho⟩ : ∃ o, o = ones 64 z := ⟨_, rfl⟩
    have PI := fun (X : Int) (h : X = z) => pop_int X z h hzb w
    rw [← ho] at hst h64
    simp only [← ho] at PI
    have PI := Lib.hid PI
    have Ho := Lib.hid ho
    clear ho
    by_cases hlt : k < 1023
    · obtain ⟨y, hy⟩ : ∃ y, ws[k + 1]? = some y := ⟨_, List.getElem?_eq_getElem (by rw [Hl.out]; omega)⟩
      have hyb := Hb.out y (List.mem_of_getElem? hy)
      have c1 := Hc.out (k + 1) y hy
      have hg : ws.getD (k + 1) 0 = y := by rw [List.getD_eq_getElem?_getD, hy]; rfl
      rw [hg] at hst
      have Hy := Lib.hid hy
      have Hst := Lib.hid hst
      have Hz := Lib.hid hz
      clear hy hst hz hg
      go_wp2_with (first
        | (go_at_call 81; refine (PI.out _ (by rw [Hz.out]; exact endW_int x hxb)).mono ?_; rintro ed w' ⟨rfl, rfl⟩))
      go_roundw
      case rel => exact ⟨k + 1, y, m + (o + (if x.testBit 63 && !y.testBit 0 then 1 else 0)), by go_num, by omega, int_eq (top_sum m x y o h64 (by have := ends_le (bitOf ws) (64 * k); rw [← Hm.out] at this; omega) hxb hyb), by rw [Hm.out, ← Hst.out]; exact ends_le _ _, Lib.hid (by rw [Hst.out, Hm.out]), rfl, Hy, by first | rfl | trivial⟩
      case measure => simp only [intOf]; omega
    · have Hk := Lib.hid (show k = 1023 by omega)
      have i5 : ¬ (k : Int) < 1023 := by omega
      have hg : ws.getD (k + 1) 0 = 0 := by rw [List.getD_eq_getElem?_getD, List.getElem?_eq_none (by rw [Hl.out]; omega)]; rfl
      rw [hg, ← Hm.out] at hst
      have hn : endsTo (bitOf ws) 65536 = m + (o + (if x.testBit 63 then 1 else 0)) := by
        rw [show (65536 : Nat) = 64 * (k + 1) by rw [Hk.out], hst]; simp
      have Hn := Lib.hid hn
      have Hz := Lib.hid hz
      have hm' : m ≤ 65472 := by rw [Hk.out] at hm; omega
      clear hst hz hg hn
      rcases hq : x.testBit 63
      · have e2 : bits .and .u64 (x : Int) 9223372036854775808 = 0 := by rw [top_and x hxb, hq]; rfl
        have e3 : (bits .and .u64 (x : Int) 9223372036854775808 != 0) = false := by rw [e2]; rfl
        go_wp2_with (first
          | (go_at_call 81; refine (PI.out _ (by rw [Hz.out]; exact endW_int x hxb)).mono ?_; rintro ed w' ⟨rfl, rfl⟩))
        go_ret
        exact ⟨ret_int (by rw [Hn.out, hq]; simp), rfl⟩
      · have e2 : bits .and .u64 (x : Int) 9223372036854775808 = 9223372036854775808 := by rw [top_and x hxb, hq]; rfl
        have e3 : (bits .and .u64 (x : Int) 9223372036854775808 != 0) = true := by rw [e2]; rfl
        go_wp2_with (first
          | (go_at_call 81; refine (PI.out _ (by rw [Hz.out]; exact endW_int x hxb)).mono ?_; rintro ed w' ⟨rfl, rfl⟩))
        go_ret
        exact ⟨ret_int (by rw [Hn.out, hq]; simp; omega), rfl⟩
end Go.Proofs

namespace Go.Roar
open Go.RowKit Go.Proofs
/-- The container that is being made, N runs wide. -/
def RCW (H g N : Nat) (xs : List Value) : List HA := [B H 112 [.slice (some ⟨g, 0, none⟩) N N], O 2 114 (.slice (some ⟨g, 0, none⟩) N N) N xs]
/-- Where the walk over the bits stands: k runs told, word c, bits put out below P. -/
structure FB (w0 wr : World) (f : Nat → Bool) (H g N : Nat) (rs : List (Nat × Nat)) (k c P cur : Nat) : Prop where
  at_ : CurAt f c P cur
  rest : restFrom f P = rgNums (rs.drop k)
  kn : k ≤ N
  mem : ∃ xs : List Value, xs.length = 2 * N ∧ xs.take (2 * k) = ivs (rs.take k) ∧ SS w0 [] wr (RCW H g N xs)
theorem fill_two {xs : List Value} {rs : List (Nat × Nat)} {k N : Nat} {r : Nat × Nat} (h1 : xs.length = 2 * N) (h2 : xs.take (2 * k) = ivs (rs.take k)) (hk : k < N) (hr : rs[k]? = some r) :
    ((xs.set (k * 2) (.int .u16 (r.1 : Int))).set (k * 2 + 1) (.int .u16 ((r.2 - r.1 : Nat) : Int))).take (2 * (k + 1)) = ivs (rs.take (k + 1)) := by
  have e : ivs (rs.take (k + 1)) = ivs (rs.take k) ++ [.int .u16 (r.1 : Int), .int .u16 ((r.2 - r.1 : Nat) : Int)] := by
    rw [take_at hr]; simp [ivs]
  rw [e, ← h2]
  apply List.ext_getElem?
  intro j
  rcases Nat.lt_or_ge j (2 * k) with h | h
  · rw [List.getElem?_take_of_lt (by omega), List.getElem?_set_ne (by omega), List.getElem?_set_ne (by omega), List.getElem?_append_left (by rw [List.length_take]; omega), List.getElem?_take_of_lt h]
  · rcases (show j = 2 * k ∨ j = 2 * k + 1 ∨ 2 * k + 2 ≤ j by omega) with rfl | rfl | h3
    · rw [List.getElem?_take_of_lt (by omega), List.getElem?_set_ne (by omega), show k * 2 = 2 * k by omega, List.getElem?_set_self (by omega), List.getElem?_append_right (by rw [List.length_take]; omega), List.length_take, show 2 * k - min (2 * k) xs.length = 0 by omega]
      rfl
    · rw [List.getElem?_take_of_lt (by omega), show k * 2 + 1 = 2 * k + 1 by omega, List.getElem?_set_self (by rw [List.length_set]; omega), List.getElem?_append_right (by rw [List.length_take]; omega), List.length_take, show 2 * k + 1 - min (2 * k) xs.length = 1 by omega]
      rfl
    · rw [List.getElem?_eq_none (by rw [List.length_take]; omega), List.getElem?_eq_none (by simp; omega)]
/-- The container is full. -/
theorem RCW.full {w0 wr : World} {H g N : Nat} {xs : List Value} {rs : List (Nat × Nat)} (h : SS w0 [] wr (RCW H g N xs)) (hN : rs.length = N) (h1 : xs.length = 2 * N) (h2 : xs.take (2 * N) = ivs (rs.take N)) : SS w0 [] wr (RC H (.slice (some ⟨g, 0, none⟩) N N) rs) := by
  rw [List.take_of_length_le (by omega), ← hN, List.take_length] at h2
  unfold RC
  rw [← h2, hN]
  exact h
end Go.Roar
namespace Go.Proofs
open Go.RowKit Go.Roar

set_option maxRecDepth 100000 in
set_option maxHeartbeats 8000000 in
theorem fromBmp_any (p g c : Nat) (ws : List Nat) (card : Nat) (w : World) (h0 : w.cell? ⟨p, 0, none⟩ = some (.int .i64 (card : Int))) (hc : 0 < card) (h1 : w.cell? ⟨p, 1, none⟩ = some (.slice (some ⟨g, 0, none⟩) 1024 c)) (hv : WV w g c ws) (hT : Tab w) (hne : restFrom (bitOf ws) 0 ≠ []) :
    Calls Tryz.prog 303 #[.pointer (some ⟨p, 0, none⟩)] w fun ed w' => ∃ z v, ed = .returned (.pointer (some ⟨z, 0, none⟩)) ∧ SS w [] w' (RC z v (runsOf (restFrom (bitOf ws) 0))) := by
  obtain ⟨iU, u1, u2, u3, u4⟩ := info_parts infoIv
  obtain ⟨hr1, hr2⟩ := runsOf_ok (restFrom (bitOf ws) 0) (rest_sorted _) (rest_lt _)
  have NR := Lib.hid (fun (W : World) (k : Mild w W) => bcRuns_any p g c ws card W (k.cell2 id h0) hc (k.cell2 id h1) (hv.kept k id))
  have hlen := rg_length (n := 65536) _ 0 hr1 (by simp) (by omega)
  have hpos : 0 < (runsOf (restFrom (bitOf ws) 0)).length := by
    rcases hq : runsOf (restFrom (bitOf ws) 0) with _ | ⟨r, t⟩
    · rw [hq] at hr2; exact absurd hr2.symm hne
    · simp
  generalize hrs : runsOf (restFrom (bitOf ws) 0) = rs at *
  have Hr1 := Lib.hid hr1
  have Hr2 := Lib.hid hr2
  clear hr1 hr2 hrs hne
  generalize hN : rs.length = N at *
  have HN := Lib.hid hN
  clear hN
  have Hc := Lib.hid (fun (i x : Nat) (hx : ws[i]? = some x) => hv.cell hx)
  have Hb := Lib.hid hv.2.1
  have Hl := Lib.hid hv.1
  obtain ⟨x0, hx0⟩ : ∃ x, ws[0]? = some x := ⟨_, List.getElem?_eq_getElem (by have := Hl.out; omega)⟩
  have Hx0 := Lib.hid hx0
  have HT := Lib.hid hT
  clear hv hx0 hT
  have S0 := Lib.hid ((SS.nothing w).new 112 [.slice none 0 0])
  have n0 : ((N : Int) == 0) = false := by rw [beq_eq_false_iff_ne]; omega
  have n1 : ¬ (N : Int) = 0 := by omega
  go_enter Tryz.func303, Tryz.ntmps303
  go_wp2_with (first
    | (go_at_call 288; refine (NR.out _ S0.out.mild).mono ?_; rintro ed w1 ⟨rfl, rfl⟩)
    | (at_make; refine wpList_make_ss rfl (.tmp 21) (.tmp 21) 110 rfl 114 iU (.agg #[.int .u16 (0 : Int), .int .u16 (0 : Int)]) 2 undIvs u1 u2 u3 w [] [B w.heap.size 112 [.slice none 0 0]] S0.out .i64 .i64 _ _ N rfl rfl rfl rfl (by rw [u4]; omega) (by unfold maxLen; omega) ?_; intro g2 w2 S2; have hz : ((madeCells (Value.agg #[.int .u16 (0 : Int), .int .u16 (0 : Int)]).cells (N * 2)).toList).length = 2 * N := (by have := (S2.get (A := O 2 114 (.slice (some ⟨g2, 0, none⟩) N N) N _) (List.mem_cons_self)).1; omega); generalize (madeCells (Value.agg #[.int .u16 (0 : Int), .int .u16 (0 : Int)]).cells (N * 2)).toList = zs at S2 hz; have f0 := S2.swap.cell 0 rfl 0 rfl; have f1 := S2.swap.free 0 rfl 0; have S3 : Hid (SS w [] (w2.setCell ⟨w.heap.size, 0, none⟩ (.slice (some ⟨g2, 0, none⟩) N N)) (RCW w.heap.size g2 N zs)) := Lib.hid (SS.store (L := []) S2.swap 0 (.slice (some ⟨g2, 0, none⟩) N N)); have Hz := Lib.hid hz; clear S2 hz; have km := S3.out.mild; have a0 := km.cell2 id h1; have a1 := km.cell2 id (Hc.out 0 x0 Hx0.out); clear km)
    | fail)
  have km := S3.out.mild
  generalize (w2.setCell ⟨w.heap.size, 0, none⟩ (.slice (some ⟨g2, 0, none⟩) N N)) = W1 at *
  generalize w.heap.size = H at *
  have HF0 : Hid (FB w W1 (bitOf ws) H g2 N rs 0 0 0 x0) := Lib.hid ⟨cur_start Hx0.out (Hb.out x0 (List.mem_of_getElem? Hx0.out)), by rw [List.drop_zero, Hr2.out], Nat.zero_le _, zs, Hz.out, by simp [ivs], S3.out⟩
  clear S3 Hz f0 f1 a0 a1 km S0 NR
  go_loopw [5, 6, 7] (fun cc cu rc wr => ∃ (k ci P cur : Nat), cc = .int .i64 (ci : Int) ∧ cu = .int .u64 (cur : Int) ∧ rc = .int .i64 (k : Int) ∧ 64 * ci ≤ P ∧ k ≤ N ∧ Hid (FB w wr (bitOf ws) H g2 N rs k ci P cur)) (fun _ _ rc _ => N - (intOf rc).toNat)
  case atStart => exact ⟨0, 0, 0, x0, rfl, rfl, rfl, Nat.le_refl _, Nat.zero_le _, HF0⟩
  case round =>
    obtain ⟨k, ci, P, cur, rfl, rfl, rfl, hcP, hk, HF⟩ := hrel
    clear HF0
    have hcur := HF.out.at_.1
    have hci := HF.out.at_.2.1
    have hPb := HF.out.at_.2.2.1
    obtain ⟨xs, hx1, hx2, hxS⟩ := HF.out.mem
    have km := hxS.mild
    have HX1 := Lib.hid hx1
    have HX2 := Lib.hid hx2
    have HXS := Lib.hid hxS
    have a0 := km.cell2 id h1
    have Hcr := Lib.hid (fun (i x : Nat) (hx : ws[i]? = some x) => km.cell2 id (Hc.out i x hx))
    have HTr := Lib.hid (fun (X : Int) (v : Nat) (h : X = v) (h0 : v ≠ 0) (hx : v < 18446744073709551616) => tz_int X v h h0 hx wr (fun i hi => km.cell2 id (HT.out i hi)))
    have Hrest := Lib.hid HF.out.rest
    have HA := Lib.hid HF.out.at_
    clear hx1 hx2 hxS HF
    go_wp2_with fail
    go_loopw [5, 6] (fun cc cu wx => ∃ (cj cur : Nat), cc = .int .i64 (cj : Int) ∧ cu = .int .u64 (cur : Int) ∧ cj ≤ 1023 ∧ cur < 18446744073709551616 ∧ Hid (CurAt (bitOf ws) cj P cur) ∧ wr = wx) (fun cc _ _ => 1024 - (intOf cc).toNat)
    case atStart => exact ⟨ci, cur, rfl, rfl, hci, hcur, HA, rfl⟩
    case round =>
      obtain ⟨cj, cur, rfl, rfl, hcj, hcur, HA, rfl⟩ := hrel
      by_cases hz : cur = 0
      · subst hz
        by_cases hlt : cj < 1023
        · obtain ⟨x, hx⟩ : ∃ x, ws[cj + 1]? = some x := ⟨_, List.getElem?_eq_getElem (by rw [Hl.out]; omega)⟩
          have a1 := Hcr.out _ x hx
          have hxb := Hb.out x (List.mem_of_getElem? hx)
          have i1 : (cj : Int) < 1023 := by omega
          have HA2 := Lib.hid (cur_next HA.out hlt hx hxb)
          clear hx
          go_wp2
          go_roundw
          case rel => exact ⟨cj + 1, x, by go_num, rfl, by omega, hxb, HA2, by first | rfl | trivial⟩
          case measure => simp only [intOf]; omega
        · have hj : cj = 1023 := by omega
          have i1 : ¬ (cj : Int) < 1023 := by omega
          have hov := runs_over Hrest.out (fun z h2 h3 => cur_zero HA.out z h2 (by omega))
          rw [HN.out] at hov
          have hkN : k = N := by omega
          have hfull := RCW.full HXS.out HN.out HX1.out (by rw [← hkN]; exact HX2.out)
          go_wp2
          go_ret
          exact ⟨H, rfl, _, hfull⟩
      · obtain ⟨t, ht⟩ : ∃ t, t = Lib.ctz 64 cur := ⟨_, rfl⟩
        obtain ⟨b1, b2, b3, b4⟩ := cur_found HA.out hz
        have TZ := HTr.out (cur : Int) cur rfl hz hcur
        rw [← ht] at b1 b2 b3 b4 TZ
        obtain ⟨one, hone⟩ : ∃ o, o = cur ||| (cur - 1) := ⟨_, rfl⟩
        rw [← hone] at b4
        have honeb := b4.1
        have hB3 := Lib.hid b3
        have hB4 := Lib.hid b4
        have HTZ := Lib.hid TZ
        have q1 : IntKind.u64.wrap ((cur : Int) - 1) = (cur : Int) - 1 := IntWalk.u64_in _ (by omega)
        have q2 : bits .or .u64 (cur : Int) ((cur : Int) - 1) = (one : Int) := by
          have := or64 cur (cur - 1) hcur (by omega)
          rw [show ((cur - 1 : Nat) : Int) = (cur : Int) - 1 by omega] at this
          rw [this, hone]
        have e0 : ((cur : Int) == 0) = false := by rw [beq_eq_false_iff_ne]; omega
        have e1 : ¬ (cur : Int) = 0 := by omega
        have Hone := Lib.hid hone
        have Ht := Lib.hid ht
        clear b3 b4 TZ hone ht
        go_wp2_with (first
          | (go_at_call 78; refine HTZ.out.mono ?_; rintro ed w' ⟨rfl, rfl⟩)
          | fail)
        obtain ⟨xx, hxx⟩ : ∃ x, x = 64 * cj + t := ⟨_, rfl⟩
        have rs1 : (t : Int) + 64 * (cj : Int) = (xx : Int) := by omega
        rw [← hxx] at hB3 hB4 b2
        have hxb : xx < 65536 := by omega
        rw [rs1]
        have HXX := Lib.hid hxx
        clear HTZ q1 q2 e0 e1 rs1 hxx
        go_loopw [5, 10] (fun cc cu wx => ∃ (cm one : Nat), cc = .int .i64 (cm : Int) ∧ cu = .int .u64 (one : Int) ∧ cm ≤ 1023 ∧ one < 18446744073709551616 ∧ Hid (OneAt (bitOf ws) cm xx one) ∧ wr = wx) (fun cc _ _ => 1024 - (intOf cc).toNat)
        case atStart => exact ⟨cj, one, rfl, rfl, hcj, honeb, hB4, rfl⟩
        case round =>
          obtain ⟨cm, one, rfl, rfl, hcm, honeb, hO, rfl⟩ := hrel
          clear Hone hB4
          by_cases hz : one = 18446744073709551615
          · subst hz
            by_cases hlt : cm < 1023
            · obtain ⟨y, hy⟩ : ∃ y, ws[cm + 1]? = some y := ⟨_, List.getElem?_eq_getElem (by rw [Hl.out]; omega)⟩
              have a1 := Hcr.out _ y hy
              have hyb := Hb.out y (List.mem_of_getElem? hy)
              have i1 : (cm : Int) < 1023 := by omega
              have HO2 := Lib.hid (one_next hO.out hlt hy hyb)
              clear hy
              go_wp2
              go_roundw
              case rel => exact ⟨cm + 1, y, by go_num, rfl, by omega, hyb, HO2, by first | rfl | trivial⟩
              case measure => simp only [intOf]; omega
            · have hj : cm = 1023 := by omega
              have i1 : ¬ (cm : Int) < 1023 := by omega
              have hrn := runs_next Hr1.out Hrest.out b2 hxb (Nat.le_refl _) hB3.out (fun z h2 h3 => one_full hO.out z h2 (by omega)) (fun h => absurd h (Nat.lt_irrefl _))
              have hkl : k < N := by have := (List.getElem?_eq_some_iff.1 hrn.1).1; rw [HN.out] at this; exact this
              have hov := runs_over hrn.2 (fun z h2 h3 => by omega)
              rw [HN.out] at hov
              have Hrn := Lib.hid hrn.1
              have hlx : k * 2 < xs.length := by rw [HX1.out]; omega
              have hlx2 : k * 2 + 1 < xs.length := by rw [HX1.out]; omega
              have hO := HXS.out.get (A := O 2 114 (.slice (some ⟨g2, 0, none⟩) N N) N xs) (by simp [RCW])
              have e0 := HXS.out.cell 0 rfl 0 rfl
              obtain ⟨e1, e2⟩ := Own.cellAt hO (List.getElem?_eq_getElem hlx)
              have S1 := Lib.hid (SS.storeO (L := [B H 112 [.slice (some ⟨g2, 0, none⟩) N N]]) (R := []) HXS.out (k * 2) hlx (.int .u16 (xx : Int)))
              have e3 := S1.out.cell 0 rfl 0 rfl
              obtain ⟨e4, e5⟩ := Own.cellAt (S1.out.get (A := O 2 114 (.slice (some ⟨g2, 0, none⟩) N N) N (xs.set (k * 2) (.int .u16 (xx : Int)))) (by simp)) (List.getElem?_eq_getElem (by rw [List.length_set]; exact hlx2))
              have i2 : (k : Int) < (N : Int) := by omega
              have r1 : IntKind.u16.wrap (xx : Int) = (xx : Int) := IntWalk.u16_in _ (by omega)
              have r2 : IntKind.u16.wrap (64 + (cm : Int) * 64) = 0 := by rw [hj]; decide
              clear hrn hO
              go_wp2
              go_ret
              have hv : IntKind.u16.wrap (IntKind.u16.wrap (IntKind.u16.wrap 65536 - (xx : Int)) - 1) = ((65535 - xx : Nat) : Int) := by simp only [IntKind.wrap_u16]; omega
              have S2 := SS.storeO (L := [B H 112 [.slice (some ⟨g2, 0, none⟩) N N]]) (R := []) S1.out (k * 2 + 1) (by rw [List.length_set]; exact hlx2) (.int .u16 ((65535 - xx : Nat) : Int))
              rw [← hv] at S2
              have hkN : k + 1 = N := by omega
              have hft := fill_two HX1.out HX2.out hkl Hrn.out
              rw [hkN] at hft
              have hfull := RCW.full S2 HN.out (by rw [List.length_set, List.length_set]; exact HX1.out) (by rw [hv]; exact hft)
              exact ⟨H, rfl, _, hfull⟩
          · obtain ⟨t2, ht2⟩ : ∃ t, t = Lib.ctz 64 (18446744073709551615 - one) := ⟨_, rfl⟩
            obtain ⟨d1, d2, d3, d4, d5⟩ := one_end hO.out hz
            have TZ := HTr.out _ (18446744073709551615 - one) (not64 one honeb) (by omega) (by omega)
            rw [← ht2] at d1 d2 d3 d4 d5 TZ
            obtain ⟨cur2, hcur2⟩ : ∃ o, o = one &&& (one + 1) := ⟨_, rfl⟩
            rw [← hcur2] at d5
            have hcb2 := d5.1
            obtain ⟨y, hy⟩ : ∃ y, y = 64 * cm + t2 := ⟨_, rfl⟩
            rw [← hy] at d2 d3 d4 d5
            have hyb : y < 65536 := by omega
            have hrn := runs_next Hr1.out Hrest.out b2 d2 (by omega) hB3.out d3 (fun _ => d4)
            have hkl : k < N := by have := (List.getElem?_eq_some_iff.1 hrn.1).1; rw [HN.out] at this; exact this
            have Hrn := Lib.hid hrn
            have HD5 := Lib.hid d5
            have HTZ := Lib.hid TZ
            have hlx : k * 2 < xs.length := by rw [HX1.out]; omega
            have hlx2 : k * 2 + 1 < xs.length := by rw [HX1.out]; omega
            have hO := HXS.out.get (A := O 2 114 (.slice (some ⟨g2, 0, none⟩) N N) N xs) (by simp [RCW])
            have e0 := HXS.out.cell 0 rfl 0 rfl
            obtain ⟨e1, e2⟩ := Own.cellAt hO (List.getElem?_eq_getElem hlx)
            have S1 := Lib.hid (SS.storeO (L := [B H 112 [.slice (some ⟨g2, 0, none⟩) N N]]) (R := []) HXS.out (k * 2) hlx (.int .u16 (xx : Int)))
            have e3 := S1.out.cell 0 rfl 0 rfl
            obtain ⟨e4, e5⟩ := Own.cellAt (S1.out.get (A := O 2 114 (.slice (some ⟨g2, 0, none⟩) N N) N (xs.set (k * 2) (.int .u16 (xx : Int)))) (by simp)) (List.getElem?_eq_getElem (by rw [List.length_set]; exact hlx2))
            have S2 := Lib.hid (SS.storeO (L := [B H 112 [.slice (some ⟨g2, 0, none⟩) N N]]) (R := []) S1.out (k * 2 + 1) (by rw [List.length_set]; exact hlx2) (.int .u16 ((y - 1 - xx : Nat) : Int)))
            have i2 : (k : Int) < (N : Int) := by omega
            have r0 : (t2 : Int) + (cm : Int) * 64 = (y : Int) := by omega
            have r1 : IntKind.u16.wrap (xx : Int) = (xx : Int) := IntWalk.u16_in _ (by omega)
            have r2 : IntKind.u16.wrap (y : Int) = (y : Int) := IntWalk.u16_in _ (by omega)
            have r3 : IntKind.u16.wrap ((y : Int) - 1) = (y : Int) - 1 := IntWalk.u16_in _ (by omega)
            have r4 : IntKind.u16.wrap ((y : Int) - 1 - (xx : Int)) = ((y - 1 - xx : Nat) : Int) := by rw [IntWalk.u16_in _ (by omega)]; omega
            have r5 : IntKind.u64.wrap ((one : Int) + 1) = (one : Int) + 1 := IntWalk.u64_in _ (by omega)
            have r6 : bits .and .u64 (one : Int) ((one : Int) + 1) = (cur2 : Int) := by
              have := and64 one (one + 1) honeb (by omega)
              rw [show ((one + 1 : Nat) : Int) = (one : Int) + 1 by omega] at this
              rw [this, hcur2]
            have r7 : ((one : Int) == 18446744073709551615) = false := by rw [beq_eq_false_iff_ne]; omega
            have r8 : ¬ (one : Int) = 18446744073709551615 := by omega
            have Hy := Lib.hid hy
            have Hz := Lib.hid hz
            clear hrn hO hy hz d3 d4 d5 TZ ht2 hcur2
            go_wp2_with (first
              | (go_at_call 78; refine HTZ.out.mono ?_; rintro ed w' ⟨rfl, rfl⟩)
              | fail)
            go_roundw
            case rel =>
              exact ⟨k + 1, cm, y, cur2, rfl, rfl, by go_num, by have := Hy.out; omega, by omega, Lib.hid ⟨HD5.out, Hrn.out.2, by omega, _, by rw [List.length_set, List.length_set]; exact HX1.out, fill_two HX1.out HX2.out hkl Hrn.out.1, S2.out⟩⟩
            case measure => simp only [intOf]; omega
end Go.Proofs
