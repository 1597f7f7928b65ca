/-
  bitmapContainer.numberOfRuns: the runs of words of bits.
-/
import Derived.Test.YtanmgknadeoffaaGreatDoorJPop
import Derived.Test.YtanmgknadeoffaaGreatDoorJQpl
namespace Go.Proofs
open Go.RowKit Go.Roar

theorem pop_int (X : Int) (v : Nat) (h : X = v) (hx : v < 18446744073709551616) (w : World) :
    Calls Tryz.prog 103 #[.int .u64 X] w fun e w' => e = .returned (.int .i64 ((ones 64 v : Nat) : Int)) ∧ w = w' := by
  subst h; exact pop_any v hx w
theorem xor_max (x : Nat) (hx : x < 18446744073709551616) : 18446744073709551615 ^^^ x = 18446744073709551615 - x := by
  apply Nat.eq_of_testBit_eq
  intro i
  rw [Nat.testBit_xor]
  have e := Nat.testBit_two_pow_sub_succ (n := 64) (x := x) hx i
  rw [show (2 : Nat) ^ 64 - (x + 1) = 18446744073709551615 - x by omega] at e
  rw [e, show (18446744073709551615 : Nat) = 2 ^ 64 - 1 from rfl, Nat.testBit_two_pow_sub_one]
  by_cases hi : i < 64
  · simp [hi]
  · have : x.testBit i = false := Nat.testBit_lt_two_pow (Nat.lt_of_lt_of_le hx (Nat.pow_le_pow_right (n := 2) (i := 64) (by decide) (by omega)))
    simp [hi, this]
theorem not64 (x : Nat) (hx : x < 18446744073709551616) : bits .xor .u64 (if IntKind.u64.signed = true then -1 else IntKind.u64.max) (x : Int) = ((18446744073709551615 - x : Nat) : Int) := by
  have := Go.u64_xor_nat 18446744073709551615 x (by decide) hx
  rw [xor_max x hx] at this
  exact this
theorem endW_int (x : Nat) (hx : x < 18446744073709551616) : bits .and .u64 (bits .xor .u64 (if IntKind.u64.signed = true then -1 else IntKind.u64.max) (x : Int)) (IntKind.u64.wrap ((x : Int) * 2)) = (((18446744073709551615 - x) &&& (2 * x % 18446744073709551616) : Nat) : Int) := by
  have e : IntKind.u64.wrap ((x : Int) * 2) = ((2 * x % 18446744073709551616 : Nat) : Int) := by rw [IntKind.wrap_u64]; omega
  rw [not64 x hx, e]
  exact and64 _ _ (by omega) (Nat.mod_lt _ (by decide))
theorem ends_le (f : Nat → Bool) (m : Nat) : endsTo f m ≤ m := by
  unfold endsTo
  have := List.length_filter_le (fun x => f x && !f (x + 1)) (List.range' 0 m)
  simpa using this
theorem top_sum (m x y o : Nat) (h64 : o ≤ 64) (hm : m ≤ 65536) (hx : x < 18446744073709551616) (hy : y < 18446744073709551616) :
    IntKind.u64.wrap ((m : Int) + IntKind.u64.wrap ((o : Int) + bits .andNot .u64 ((x : Int) / 9223372036854775808) (y : Int))) = ((m + (o + (if x.testBit 63 && !y.testBit 0 then 1 else 0)) : Nat) : Int) := by
  have e0 : (x : Int) / 9223372036854775808 = ((x / 9223372036854775808 : Nat) : Int) := by omega
  have e1 := Go.u64_andNot_nat (x / 9223372036854775808) y (by omega) hy
  have e2 := (top_bit x y hx).resolve_right (by omega)
  rw [e0, e1, e2]
  simp only [IntKind.wrap_u64]
  split <;> simp <;> omega
theorem top_and (x : Nat) (hx : x < 18446744073709551616) : bits .and .u64 (x : Int) 9223372036854775808 = if x.testBit 63 then 9223372036854775808 else 0 := by
  have e := and64 x 9223372036854775808 hx (by decide)
  have e2 : x &&& 9223372036854775808 = if x.testBit 63 then 9223372036854775808 else 0 := by
    apply Nat.eq_of_testBit_eq
    intro i
    rw [Nat.testBit_and, show (9223372036854775808 : Nat) = 2 ^ 63 from rfl, Nat.testBit_two_pow]
    by_cases hi : 63 = i
    · subst hi
      have : Nat.testBit (2 ^ 63) 63 = true := by rw [Nat.testBit_two_pow]; rfl
      cases hq : x.testBit 63
      · simp
      · rw [if_pos rfl, this]; rfl
    · have : Nat.testBit (2 ^ 63) i = false := by rw [Nat.testBit_two_pow]; simp [hi]
      cases hq : x.testBit 63
      · simp [hi]
      · rw [if_pos rfl, this]; simp [hi]
  rw [e2] at e
  rw [show (9223372036854775808 : Int) = ((9223372036854775808 : Nat) : Int) from rfl, e]
  split <;> rfl
theorem ends_step {ws : List Nat} {k x : Nat} (hx : ws[k]? = some x) (hlt : x < 18446744073709551616) :
    endsTo (bitOf ws) (64 * (k + 1)) = endsTo (bitOf ws) (64 * k) + (ones 64 ((18446744073709551615 - x) &&& (2 * x % 18446744073709551616)) + (if x.testBit 63 && !(ws.getD (k + 1) 0).testBit 0 then 1 else 0)) := by
  rw [show 64 * (k + 1) = 64 * k + 64 by omega, endsTo_add, ends_word ws k x hx hlt]

set_option maxRecDepth 100000 in
set_option maxHeartbeats 2000000 in
theorem bcRuns_any (p g c : Nat) (ws : List Nat) (card : Nat) (w : World) (h0 : w.cell? ⟨p, 0, none⟩ = some (.int .i64 (card : Int))) (hc : 0 < card) (h1 : w.cell? ⟨p, 1, none⟩ = some (.slice (some ⟨g, 0, none⟩) 1024 c)) (hv : WV w g c ws) :
    Calls Tryz.prog 236 #[.pointer (some ⟨p, 0, none⟩)] w fun ed w' => ed = .returned (.int .i64 (((runsOf (restFrom (bitOf ws) 0)).length : Nat) : Int)) ∧ w = w' := by
  have hl := hv.1
  have hb := hv.2.1
  have Hc := Lib.hid (fun (i x : Nat) (hx : ws[i]? = some x) => hv.cell hx)
  have Hl := Lib.hid hl
  have Hb := Lib.hid hb
  rw [runs_words hl]
  have n0 : ((card : Int) == 0) = false := by rw [beq_eq_false_iff_ne]; omega
  obtain ⟨x0, hx0⟩ : ∃ x, ws[0]? = some x := ⟨_, List.getElem?_eq_getElem (by omega)⟩
  have c0 := Hc.out 0 x0 hx0
  have Hx0 := Lib.hid hx0
  clear hx0 hl hb hv
  go_enter Tryz.func236, Tryz.ntmps236
  go_wp2
  go_loopw [5, 3, 4] (fun i a z wr => ∃ (k x m : Nat), i = .int .i64 (k : Int) ∧ k ≤ 1023 ∧ a = .int .u64 (m : Int) ∧ m ≤ 64 * k ∧ Hid (m = endsTo (bitOf ws) (64 * k)) ∧ z = .int .u64 (x : Int) ∧ Hid (ws[k]? = some x) ∧ w = wr) (fun i _ _ _ => 1024 - (intOf i).toNat)
  case atStart => exact ⟨0, x0, 0, rfl, by omega, rfl, Nat.le_refl _, Lib.hid rfl, rfl, Hx0, rfl⟩
  case round =>
    obtain ⟨k, x, m, rfl, hk, rfl, hm, Hm, rfl, Hx, rfl⟩ := hrel
    have hxb := Hb.out x (List.mem_of_getElem? Hx.out)
    have hst := ends_step Hx.out hxb
    have hwd : ∃ z, z = (18446744073709551615 - x) &&& (2 * x % 18446744073709551616) := ⟨_, rfl⟩
    obtain ⟨z, hz⟩ := hwd
    have hzb : z < 18446744073709551616 := by rw [hz]; exact Nat.lt_of_le_of_lt Nat.and_le_left (by omega)
    rw [← hz] at hst
    have h64 := ones_le 64 z
    obtain ⟨o, ho⟩ : ∃ o, o = ones 64 z := ⟨_, rfl⟩
    have PI := fun (X : Int) (h : X = z) => pop_int X z h hzb w
    rw [← ho] at hst h64
    simp only [← ho] at PI
    have PI := Lib.hid PI
    have Ho := Lib.hid ho
    clear ho
    by_cases hlt : k < 1023
    · obtain ⟨y, hy⟩ : ∃ y, ws[k + 1]? = some y := ⟨_, List.getElem?_eq_getElem (by rw [Hl.out]; omega)⟩
      have hyb := Hb.out y (List.mem_of_getElem? hy)
      have c1 := Hc.out (k + 1) y hy
      have hg : ws.getD (k + 1) 0 = y := by rw [List.getD_eq_getElem?_getD, hy]; rfl
      rw [hg] at hst
      have Hy := Lib.hid hy
      have Hst := Lib.hid hst
      have Hz := Lib.hid hz
      clear hy hst hz hg
      go_wp2_with (first
        | (go_at_call 103; refine (PI.out _ (by rw [Hz.out]; exact endW_int x hxb)).mono ?_; rintro ed w' ⟨rfl, rfl⟩))
      go_roundw
      case rel => exact ⟨k + 1, y, m + (o + (if x.testBit 63 && !y.testBit 0 then 1 else 0)), by go_num, by omega, int_eq (top_sum m x y o h64 (by have := ends_le (bitOf ws) (64 * k); rw [← Hm.out] at this; omega) hxb hyb), by rw [Hm.out, ← Hst.out]; exact ends_le _ _, Lib.hid (by rw [Hst.out, Hm.out]), rfl, Hy, by first | rfl | trivial⟩
      case measure => simp only [intOf]; omega
    · have Hk := Lib.hid (show k = 1023 by omega)
      have i5 : ¬ (k : Int) < 1023 := by omega
      have hg : ws.getD (k + 1) 0 = 0 := by rw [List.getD_eq_getElem?_getD, List.getElem?_eq_none (by rw [Hl.out]; omega)]; rfl
      rw [hg, ← Hm.out] at hst
      have hn : endsTo (bitOf ws) 65536 = m + (o + (if x.testBit 63 then 1 else 0)) := by
        rw [show (65536 : Nat) = 64 * (k + 1) by rw [Hk.out], hst]; simp
      have Hn := Lib.hid hn
      have Hz := Lib.hid hz
      have hm' : m ≤ 65472 := by rw [Hk.out] at hm; omega
      clear hst hz hg hn
      rcases hq : x.testBit 63
      · have e2 : bits .and .u64 (x : Int) 9223372036854775808 = 0 := by rw [top_and x hxb, hq]; rfl
        have e3 : (bits .and .u64 (x : Int) 9223372036854775808 != 0) = false := by rw [e2]; rfl
        go_wp2_with (first
          | (go_at_call 103; refine (PI.out _ (by rw [Hz.out]; exact endW_int x hxb)).mono ?_; rintro ed w' ⟨rfl, rfl⟩))
        go_ret
        exact ⟨ret_int (by rw [Hn.out, hq]; simp), rfl⟩
      · have e2 : bits .and .u64 (x : Int) 9223372036854775808 = 9223372036854775808 := by rw [top_and x hxb, hq]; rfl
        have e3 : (bits .and .u64 (x : Int) 9223372036854775808 != 0) = true := by rw [e2]; rfl
        go_wp2_with (first
          | (go_at_call 103; refine (PI.out _ (by rw [Hz.out]; exact endW_int x hxb)).mono ?_; rintro ed w' ⟨rfl, rfl⟩))
        go_ret
        exact ⟨ret_int (by rw [Hn.out, hq]; simp; omega), rfl⟩
end Go.Proofs
