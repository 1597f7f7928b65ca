/-
  Plain laws: one bit is struck from words: bitmapContainer.iremove.
  Plain laws: a word's lowest bit: taken by 'v & -v', struck by 'v ^ (v & -v)'.
  bitmapContainer.toArrayContainer: fillArrayScalar, loadData.
-/
import Derived.Test.YtjjijipfhnoomaaGreatDoorJAoR
import Derived.Test.YtjjijipfhnoomaaGreatDoorJQpl
import Derived.Test.YtjjijipfhnoomaaGreatDoorJPop
import Derived.Test.YtjjijipfhnoomaaGreatDoorJHeap
import Derived.Test.YtjjijipfhnoomaaGreatDoorJSr
import Derived.Test.YtjjijipfhnoomaaGreatDoorKIns
import Derived.Laws.BitsAllLaws
import Derived.Deep.RegionHeld3
import Derived.Deep.DeepCutAuto
import Derived.Deep.OwnRows
namespace Go.Roar
open Go.RowKit Go.Proofs
/-- Words without one bit. -/
def offAt (ws : List Nat) (i k : Nat) : List Nat := ws.set i (ws.getD i 0 &&& (18446744073709551615 - 2 ^ k))
theorem off_bit {k : Nat} (hk : k < 64) (y j : Nat) (hj : j < 64) : (y &&& (18446744073709551615 - 2 ^ k)).testBit j = (y.testBit j && decide (j ≠ k)) := by
  have hp : 2 ^ k < 2 ^ 64 := Nat.pow_lt_pow_right (by decide) hk
  have e : 18446744073709551615 - 2 ^ k = 2 ^ 64 - (2 ^ k + 1) := by
    rw [show (2 : Nat) ^ 64 = 18446744073709551616 from rfl]; omega
  rw [Nat.testBit_and, e, Nat.testBit_two_pow_sub_succ hp, Nat.testBit_two_pow]
  by_cases h : k = j
  · subst h; simp
  · have : j ≠ k := fun e => h e.symm
    simp [h, this, hj]
theorem off_lt (y k : Nat) (hy : y < 18446744073709551616) : y &&& (18446744073709551615 - 2 ^ k) < 18446744073709551616 := Nat.lt_of_le_of_lt Nat.and_le_left hy
theorem one_bit {k : Nat} (y : Nat) : decide (y &&& 2 ^ k ≠ 0) = y.testBit k := by
  rw [Bool.eq_iff_iff, decide_eq_true_eq]
  constructor
  · intro h
    refine Decidable.byContradiction fun hn => h ?_
    apply Nat.eq_of_testBit_eq
    intro j
    rw [Nat.testBit_and, Nat.testBit_two_pow, Nat.zero_testBit]
    by_cases hj : k = j
    · subst hj; simp [hn]
    · simp [hj]
  · intro h e
    have := congrArg (fun n => n.testBit k) e
    simp [Nat.testBit_and, h] at this
theorem bitOf_wordR {ws : List Nat} {x y : Nat} (h : ws[x / 64]? = some y) : bitOf ws x = y.testBit (x % 64) := by
  unfold bitOf
  rw [List.getD_eq_getElem?_getD, h]
  rfl
theorem off_nums {ws : List Nat} (hl : ws.length = 1024) {x : Nat} (hx : x < 65536) : restFrom (bitOf (offAt ws (x / 64) (x % 64))) 0 = wo (restFrom (bitOf ws) 0) x := by
  refine sorted_ext (rest_sorted _) (wo_rising (rest_sorted _) x) (fun z => ?_)
  rw [rest_mem, wo_mem, rest_mem]
  have hb : bitOf (offAt ws (x / 64) (x % 64)) z = (bitOf ws z && decide (z ≠ x)) := by
    unfold bitOf offAt
    by_cases h : z / 64 = x / 64
    · rw [h, List.getD_eq_getElem?_getD, List.getElem?_set_self (by omega), Option.getD_some, off_bit (Nat.mod_lt _ (by decide)) _ _ (Nat.mod_lt _ (by decide))]
      congr 1
      rw [decide_eq_decide]
      omega
    · rw [List.getD_eq_getElem?_getD, List.getElem?_set_ne (by omega), ← List.getD_eq_getElem?_getD]
      have : z ≠ x := fun e => h (by rw [e])
      simp [this]
  rw [hb, Bool.and_eq_true, decide_eq_true_eq]
  exact ⟨fun ⟨h1, h2, h3⟩ => ⟨⟨h1, h2⟩, h3⟩, fun ⟨⟨h1, h2⟩, h3⟩ => ⟨h1, h2, h3⟩⟩
end Go.Roar

namespace Go.Roar
/-- A word's numbers from bit j on. -/
def bitsFrom (v j : Nat) : List Nat := (List.range' j (64 - j)).filter fun i => v.testBit i
theorem low_splitL {v t : Nat} (h1 : v.testBit t = true) (h2 : ∀ j, j < t → v.testBit j = false) : ∃ m, v = 2 ^ t * (2 * m + 1) := by
  have hd : v % 2 ^ t = 0 := by
    apply Nat.eq_of_testBit_eq
    intro j
    rw [Nat.testBit_mod_two_pow, Nat.zero_testBit]
    by_cases h : j < t
    · rw [h2 j h]; simp
    · simp [h]
  have ho : v / 2 ^ t % 2 = 1 := by
    have : (v / 2 ^ t).testBit 0 = true := by rw [Nat.testBit_div_two_pow, Nat.zero_add]; exact h1
    rw [Nat.testBit_zero] at this
    simpa using this
  refine ⟨v / 2 ^ t / 2, ?_⟩
  have h3 : 2 * (v / 2 ^ t / 2) + 1 = v / 2 ^ t := by omega
  rw [h3, Nat.mul_comm]
  exact (Nat.div_mul_cancel (Nat.dvd_of_mod_eq_zero hd)).symm
theorem low_pred (t m j : Nat) : (2 ^ t * (2 * m + 1) - 1).testBit j = if j < t then true else if j = t then false else (2 ^ t * (2 * m + 1)).testBit j := by
  have hp : 0 < 2 ^ t := Nat.pow_pos (by decide)
  have e : 2 ^ t * (2 * m + 1) - 1 = 2 ^ t * (2 * m) + (2 ^ t - 1) := by
    rw [Nat.mul_add, Nat.mul_one]; omega
  rw [e, Nat.testBit_two_pow_mul_add _ (by omega), Nat.testBit_two_pow_sub_one, Nat.testBit_two_pow_mul]
  by_cases h : j < t
  · simp [h]
  · rw [if_neg h, if_neg h]
    by_cases h2 : j = t
    · subst h2
      rw [if_pos rfl, Nat.sub_self, Nat.testBit_zero]
      simp
    · rw [if_neg h2]
      obtain ⟨d, hd⟩ : ∃ d, j - t = d + 1 := ⟨j - t - 1, by omega⟩
      rw [hd, Nat.testBit_succ, Nat.testBit_succ]
      have h3 : 2 * m / 2 = m := by omega
      have h4 : (2 * m + 1) / 2 = m := by omega
      rw [h3, h4]
      simp; omega
/-- 'v & -v' is the lowest bit. -/
theorem low_and {v t : Nat} (hv : v < 18446744073709551616) (ht : t < 64) (h1 : v.testBit t = true) (h2 : ∀ j, j < t → v.testBit j = false) : v &&& (18446744073709551616 - v) = 2 ^ t := by
  obtain ⟨m, hm⟩ := low_splitL h1 h2
  have hp : 0 < 2 ^ t := Nat.pow_pos (by decide)
  have h0 : 0 < v := by rw [hm]; exact Nat.mul_pos hp (by omega)
  apply Nat.eq_of_testBit_eq
  intro j
  have e : 18446744073709551616 - v = 2 ^ 64 - ((v - 1) + 1) := by
    rw [show (2 : Nat) ^ 64 = 18446744073709551616 from rfl]; omega
  rw [Nat.testBit_and, e, Nat.testBit_two_pow_sub_succ (show v - 1 < 2 ^ 64 by rw [show (2 : Nat) ^ 64 = 18446744073709551616 from rfl]; omega), Nat.testBit_two_pow]
  have hpr := low_pred t m j
  rw [← hm] at hpr
  rw [hpr]
  by_cases h : j < t
  · rw [h2 j h, Bool.false_and]; simp; omega
  · rw [if_neg h]
    by_cases h3 : j = t
    · subst h3
      rw [if_pos rfl, h1]; simp [ht]
    · rw [if_neg h3]
      have : t ≠ j := fun h => h3 h.symm
      cases hb : v.testBit j <;> simp [this]
/-- The word without it. -/
theorem low_sub {v t : Nat} (h1 : v.testBit t = true) (h2 : ∀ j, j < t → v.testBit j = false) : v ^^^ 2 ^ t = v - 2 ^ t ∧ ∀ j, (v - 2 ^ t).testBit j = (v.testBit j && decide (j ≠ t)) := by
  obtain ⟨m, hm⟩ := low_splitL h1 h2
  have hs : v - 2 ^ t = 2 ^ t * (2 * m) := by rw [hm, Nat.mul_add, Nat.mul_one]; omega
  have hb : ∀ j, (v - 2 ^ t).testBit j = (v.testBit j && decide (j ≠ t)) := fun j => by
    rw [hs, hm, Nat.testBit_two_pow_mul, Nat.testBit_two_pow_mul]
    by_cases h : j < t
    · simp [show ¬ t ≤ j by omega]
    · by_cases h3 : j = t
      · subst h3
        rw [Nat.sub_self, Nat.testBit_zero]
        simp
      · obtain ⟨d, hd⟩ : ∃ d, j - t = d + 1 := ⟨j - t - 1, by omega⟩
        rw [hd, Nat.testBit_succ, Nat.testBit_succ, show 2 * m / 2 = m by omega, show (2 * m + 1) / 2 = m by omega]
        simp [h3]
  refine ⟨?_, hb⟩
  apply Nat.eq_of_testBit_eq
  intro j
  rw [hb, Nat.testBit_xor, Nat.testBit_two_pow]
  by_cases hj : t = j
  · subst hj; rw [h1]; simp
  · have : j ≠ t := fun h => hj h.symm
    simp [hj, this]
/-- A word's numbers, the lowest first. -/
theorem bitsFrom_low {v t : Nat} (ht : t < 64) (h1 : v.testBit t = true) (h2 : ∀ j, j < t → v.testBit j = false) : bitsFrom v 0 = t :: bitsFrom (v - 2 ^ t) 0 := by
  have hs := (low_sub h1 h2).2
  unfold bitsFrom
  have e : List.range' 0 (64 - 0) = List.range' 0 t ++ t :: List.range' (t + 1) (63 - t) := by
    rw [show 64 - 0 = t + (1 + (63 - t)) by omega, ← List.range'_append_1, ← List.range'_append_1]
    simp
  rw [e, List.filter_append, List.filter_append, List.filter_cons_of_pos h1, List.filter_cons_of_neg (by rw [hs]; simp)]
  have e1 : (List.range' 0 t).filter (fun i => v.testBit i) = [] := List.filter_eq_nil_iff.2 (fun j hj => by
    rw [List.mem_range'_1] at hj
    rw [h2 j (by omega)]; simp)
  have e2 : (List.range' 0 t).filter (fun i => (v - 2 ^ t).testBit i) = [] := List.filter_eq_nil_iff.2 (fun j hj => by
    rw [List.mem_range'_1] at hj
    rw [hs, h2 j (by omega)]; simp)
  rw [e1, e2, List.nil_append, List.nil_append]
  congr 1
  refine List.filter_congr (fun j hj => ?_)
  rw [List.mem_range'_1] at hj
  rw [hs]
  simp; omega
theorem bitsFrom_zero : bitsFrom 0 0 = [] := by
  unfold bitsFrom
  exact List.filter_eq_nil_iff.2 (fun j _ => by simp)
/-- The numbers of words from word k on: its own, then the others'. -/
theorem rest_word {ws : List Nat} (hl : ws.length = 1024) {k v : Nat} (hk : ws[k]? = some v) : restFrom (bitOf ws) (64 * k) = (bitsFrom v 0).map (64 * k + ·) ++ restFrom (bitOf ws) (64 * (k + 1)) := by
  have hk4 : k < 1024 := by have := (List.getElem?_eq_some_iff.1 hk).1; omega
  unfold restFrom bitsFrom
  rw [show 65536 - 64 * k = 64 + (65536 - 64 * (k + 1)) by omega, ← List.range'_append_1, List.filter_append, show 64 * k + 64 = 64 * (k + 1) by omega]
  congr 1
  have e : List.range' (64 * k) 64 = (List.range' 0 (64 - 0)).map (64 * k + ·) := by
    rw [List.map_add_range', Nat.add_zero]
  rw [e, List.filter_map]
  congr 1
  refine List.filter_congr (fun j hj => ?_)
  rw [List.mem_range'_1] at hj
  show bitOf ws (64 * k + j) = v.testBit j
  unfold bitOf
  rw [show (64 * k + j) / 64 = k by omega, show (64 * k + j) % 64 = j by omega, List.getD_eq_getElem?_getD, hk]
  rfl
theorem rest_done {ws : List Nat} : restFrom (bitOf ws) (64 * 1024) = [] := restFrom_end _ _ (by omega)
end Go.Roar

namespace Go.Roar
open Go.RowKit Go.Proofs
theorem ones_low : ∀ t, t < 64 → ones 64 (2 ^ t - 1) = t := by decide +kernel
/-- The first m numbers of a list, zeros behind them, n in all. -/
def fl16 (l : List Nat) (m n : Nat) : List Nat := l.take m ++ List.replicate (n - m) 0
theorem fl16_zero (l : List Nat) (n : Nat) : fl16 l 0 n = List.replicate n 0 := by simp [fl16]
theorem fl16_all {l : List Nat} {n : Nat} (h : l.length = n) : fl16 l n n = l := by
  unfold fl16
  rw [← h, List.take_length, Nat.sub_self]
  simp
theorem fl16_set {l : List Nat} {m n x : Nat} (h : l.length = n) (hx : l[m]? = some x) : (fl16 l m n).set m x = fl16 l (m + 1) n := by
  obtain ⟨hm, rfl⟩ := List.getElem?_eq_some_iff.1 hx
  unfold fl16
  obtain ⟨d, hd⟩ : ∃ d, n - m = d + 1 := ⟨n - m - 1, by omega⟩
  have hl : (l.take m).length = m := by rw [List.length_take]; omega
  rw [List.set_append_right _ _ (by omega), hl, Nat.sub_self, hd, List.replicate_succ, List.set_cons_zero, List.take_succ_eq_append_getElem hm, show n - (m + 1) = d by omega, List.append_assoc]
  rfl
theorem fl16_length {l : List Nat} {m n : Nat} (h : l.length = n) (hm : m ≤ n) : (fl16 l m n).length = n := by
  unfold fl16
  rw [List.length_append, List.length_take, List.length_replicate]
  omega
theorem u16s_set (l : List Nat) (i x : Nat) : (u16s l).set i (.int .u16 (x : Int)) = u16s (l.set i x) := by simp [u16s, List.map_set]
theorem drop_head {l R : List Nat} {m x : Nat} (h : l.drop m = x :: R) : l[m]? = some x ∧ l.drop (m + 1) = R := by
  constructor
  · have := congrArg (·[0]?) h
    simpa using this
  · have := congrArg (List.drop 1) h
    rw [List.drop_drop] at this
    simpa using this
end Go.Roar
namespace Go.Proofs
open Go.RowKit Go.Roar

set_option maxRecDepth 100000 in
set_option maxHeartbeats 4000000 in
theorem fillArr_any (g c D C n : Nat) (ws : List Nat) (t : TypeId) (w : World) (hl : ws.length = 1024) (hb : ∀ x ∈ ws, x < 18446744073709551616) (hc : ∀ (i x : Nat), ws[i]? = some x → w.cell? ⟨g, i, none⟩ = some (.int .u64 (x : Int)))
    (hD : Blk w D t (u16s (List.replicate n 0))) (hn : (restFrom (bitOf ws) 0).length = n) (hn9 : n ≤ 65536) (hgD : ¬ g = D) :
    Calls Tryz.prog 172 #[.slice (some ⟨g, 0, none⟩) 1024 c, .slice (some ⟨D, 0, none⟩) n C] w fun e w' => e = .returned (.tuple #[]) ∧ Blk w' D t (u16s (restFrom (bitOf ws) 0)) ∧ Kept (fun b => b = D) w w' := by
  have hlt : ∀ x ∈ restFrom (bitOf ws) 0, x < 65536 := rest_lt _
  have Hw := Lib.hid (fun (k v : Nat) (h : ws[k]? = some v) => rest_word hl h)
  have Hz := Lib.hid (rest_done (ws := ws))
  generalize hL : restFrom (bitOf ws) 0 = l at *
  have hstart : l.drop 0 = restFrom (bitOf ws) (64 * 0) := by rw [List.drop_zero, ← hL]
  have Hl := Lib.hid hl
  have Hb := Lib.hid hb
  have Hc := Lib.hid hc
  have Hn := Lib.hid hn
  have Hlt := Lib.hid hlt
  have HB0 : Hid (Blk w D t (u16s (fl16 l 0 n))) := Lib.hid (by rw [fl16_zero]; exact hD)
  have HS0 := Lib.hid hstart
  clear hl hb hc hn hlt hD hstart hL
  go_enter Tryz.func172, Tryz.ntmps172
  go_wp2
  go_loopw [6, 4, 5] (fun i p b wr => ∃ k m : Nat, i = .int .i64 (k : Int) ∧ p = .int .i64 (m : Int) ∧ b = .int .i64 ((64 * k : Nat) : Int) ∧ k ≤ 1024 ∧ m ≤ n ∧ Hid (l.drop m = restFrom (bitOf ws) (64 * k)) ∧ Hid (Kept (fun b => b = D) w wr) ∧ Hid (Blk wr D t (u16s (fl16 l m n)))) (fun i _ _ _ => 1024 - (intOf i).toNat)
  case atStart => exact ⟨0, 0, rfl, rfl, rfl, by omega, Nat.zero_le _, HS0, Lib.hid (Kept.refl _ _), HB0⟩
  case round =>
    clear HS0 HB0
    obtain ⟨k, m, rfl, rfl, rfl, hk, hm, Hd, Hm, HB⟩ := hrel
    by_cases hk4 : k < 1024
    · obtain ⟨v, hv⟩ : ∃ v, ws[k]? = some v := ⟨_, List.getElem?_eq_getElem (by rw [Hl.out]; exact hk4)⟩
      have hvb := Hb.out v (List.mem_of_getElem? hv)
      have cv := Hm.out.cell2 hgD (Hc.out k v hv)
      have i1 : (k : Int) < 1024 := by omega
      obtain ⟨R, hR⟩ : ∃ R, R = restFrom (bitOf ws) (64 * (k + 1)) := ⟨_, rfl⟩
      have hd := Hd.out
      rw [Hw.out k v hv, ← hR] at hd
      have HR := Lib.hid hR
      have HD0 := Lib.hid hd
      obtain ⟨bs, hbs⟩ : ∃ bs, bs = 64 * k := ⟨_, rfl⟩
      have Hbs := Lib.hid hbs
      rw [← hbs] at HD0
      have hbs9 : bs ≤ 65472 := by omega
      rw [← hbs]
      clear hv hR hd hbs
      go_wp2_with fail
      go_loopw [7, 4] (fun y p wx => ∃ v m : Nat, y = .int .u64 (v : Int) ∧ p = .int .i64 (m : Int) ∧ v < 18446744073709551616 ∧ m ≤ n ∧ Hid (l.drop m = (bitsFrom v 0).map (bs + ·) ++ R) ∧ Hid (Kept (fun b => b = D) w wx) ∧ Hid (Blk wx D t (u16s (fl16 l m n)))) (fun y _ _ => (intOf y).toNat)
      case atStart => exact ⟨v, m, rfl, rfl, hvb, hm, HD0, Hm, HB⟩
      case round =>
        clear HD0 Hm HB Hd cv hvb hm
        obtain ⟨v, m, rfl, rfl, hvb, hm, Hd, Hm, HB⟩ := hrel
        by_cases hv0 : v = 0
        · subst hv0
          have hd := Hd.out
          rw [bitsFrom_zero, List.map_nil, List.nil_append, HR.out] at hd
          have Hd2 := Lib.hid hd
          clear hd
          go_wp2_with fail
          go_roundw
          case rel => exact ⟨k + 1, m, by go_num, rfl, by have := Hbs.out; go_num, by omega, hm, Hd2, Hm, HB⟩
          case measure => simp only [intOf]; omega
        · obtain ⟨t0, t1, t2⟩ := ctz_bits v (by omega) hvb
          generalize Lib.ctz 64 v = tz at *
          have hlow := low_and hvb t0 t1 t2
          have hsub := (low_sub t1 t2).1
          have hd := Hd.out
          rw [bitsFrom_low t0 t1 t2, List.map_cons, List.cons_append] at hd
          obtain ⟨x1, x2⟩ := drop_head hd
          have hmn : m < n := by have := (List.getElem?_eq_some_iff.1 x1).1; rw [Hn.out] at this; exact this
          have hxb : bs + tz < 65536 := by omega
          have hpow : 2 ^ tz ≤ v := Nat.ge_two_pow_of_testBit t1
          have hp0 : 0 < 2 ^ tz := Nat.pow_pos (by decide)
          have hon := ones_low tz t0
          obtain ⟨T, hT⟩ : ∃ T, T = 2 ^ tz := ⟨_, rfl⟩
          rw [← hT] at hlow hsub hpow hp0 hon x2
          obtain ⟨NV, hNV⟩ : ∃ NV, NV = 18446744073709551616 - v := ⟨_, rfl⟩
          rw [← hNV] at hlow
          have e1 : IntKind.u64.wrap (-(v : Int)) = (NV : Int) := by rw [IntKind.wrap_u64]; omega
          have e2 : bits .and .u64 (v : Int) (NV : Int) = (T : Int) := by rw [u64_and_nat v NV hvb (by omega), hlow]
          have e3 : IntKind.u64.wrap ((T : Int) - 1) = ((T - 1 : Nat) : Int) := by rw [IntKind.wrap_u64]; omega
          have e4 : bits .xor .u64 (v : Int) (T : Int) = ((v - T : Nat) : Int) := by rw [u64_xor_nat v T hvb (by omega), hsub]
          have e5 : IntKind.i64.wrap ((bs : Int) + (tz : Int)) = ((bs + tz : Nat) : Int) := by rw [IntWalk.i64_in _ (by omega)]; omega
          have e6 : IntKind.u16.wrap ((bs + tz : Nat) : Int) = ((bs + tz : Nat) : Int) := IntWalk.u16_in _ (by omega)
          have PO := Lib.hid (fun (W : World) => show Calls Tryz.prog 81 #[.int .u64 ((T - 1 : Nat) : Int)] W fun e w' => e = .returned (.int .i64 (tz : Int)) ∧ W = w' from by
            have := pop_any (T - 1) (by omega) W
            rwa [hon] at this)
          have hset := fl16_set Hn.out x1
          have hcell : (u16s (fl16 l m n))[m]? = some (.int .u16 (((fl16 l m n).getD m 0 : Nat) : Int)) := by
            have : m < (fl16 l m n).length := by rw [fl16_length Hn.out hm]; exact hmn
            simp [u16s, List.getD_eq_getElem?_getD, List.getElem?_eq_getElem this]
          have c0 := (HB.out.cell m).trans hcell
          have f0 := HB.out.free m
          have Hset := Lib.hid (show (u16s (fl16 l m n)).set m (.int .u16 ((bs + tz : Nat) : Int)) = u16s (fl16 l (m + 1) n) by rw [u16s_set, hset])
          have Hx2 := Lib.hid x2
          have i2 : (m : Int) < (n : Int) := by omega
          have i3 : ¬ (v : Int) = 0 := by omega
          obtain ⟨v2, hv2⟩ : ∃ v2, v2 = v - T := ⟨_, rfl⟩
          rw [← hv2] at e4 Hx2
          have hv2b : v2 < v := by omega
          clear hlow hsub hd x1 x2 hon hset hcell hT hNV t1 t2 hv2 hpow hp0
          go_wp2_with (first
            | (go_at_call 81; refine (PO.out _).mono ?_; rintro ed w1 ⟨rfl, rfl⟩)
            | fail)
          go_roundw
          case rel =>
            refine ⟨v2, m + 1, rfl, by go_num, by omega, by omega, Hx2, Lib.hid (Hm.out.setCell (p := ⟨D, m, none⟩) (fun _ => rfl) _), Lib.hid ?_⟩
            rw [← Hset.out, show ((bs : Int) + (tz : Int)) = ((bs + tz : Nat) : Int) by omega]
            exact HB.out.set _ _
          case measure => simp only [intOf]; omega
    · obtain rfl : k = 1024 := by omega
      have hd := Hd.out
      rw [Hz.out] at hd
      have hmn : m = n := by
        have := congrArg List.length hd
        rw [List.length_drop, Hn.out] at this
        simp at this
        omega
      subst hmn
      have hB := HB.out
      rw [fl16_all Hn.out] at hB
      have HBf := Lib.hid hB
      clear hB hd
      go_wp2_with fail
      go_end0
      exact ⟨rfl, HBf.out, Hm.out⟩

set_option maxRecDepth 100000 in
set_option maxHeartbeats 1000000 in
theorem bcFill_any (p g c D C n : Nat) (ws : List Nat) (t : TypeId) (w : World) (hp : w.cell? ⟨p, 1, none⟩ = some (.slice (some ⟨g, 0, none⟩) 1024 c)) (hl : ws.length = 1024) (hb : ∀ x ∈ ws, x < 18446744073709551616) (hc : ∀ (i x : Nat), ws[i]? = some x → w.cell? ⟨g, i, none⟩ = some (.int .u64 (x : Int)))
    (hD : Blk w D t (u16s (List.replicate n 0))) (hn : (restFrom (bitOf ws) 0).length = n) (hn9 : n ≤ 65536) (hgD : ¬ g = D) :
    Calls Tryz.prog 168 #[.pointer (some ⟨p, 0, none⟩), .slice (some ⟨D, 0, none⟩) n C] w fun e w' => e = .returned (.tuple #[]) ∧ Blk w' D t (u16s (restFrom (bitOf ws) 0)) ∧ Kept (fun b => b = D) w w' := by
  have FA := Lib.hid (fillArr_any g c D C n ws t w hl hb hc hD hn hn9 hgD)
  clear hl hb hc hD hn hgD
  go_enter Tryz.func168, Tryz.ntmps168
  go_wp2_with (first
    | (go_at_call 172; refine FA.out.mono ?_; rintro ed w1 ⟨rfl, q1, q2⟩)
    | fail)
  go_end0
  exact ⟨rfl, q1, q2⟩

set_option maxRecDepth 100000 in
set_option maxHeartbeats 2000000 in
theorem acLoad_any (a p g c n : Nat) (v0 : Value) (ws : List Nat) (w : World) (hA : Blk w a 106 [v0]) (hp0 : w.cell? ⟨p, 0, none⟩ = some (.int .i64 (n : Int))) (hp : w.cell? ⟨p, 1, none⟩ = some (.slice (some ⟨g, 0, none⟩) 1024 c)) (hl : ws.length = 1024) (hb : ∀ x ∈ ws, x < 18446744073709551616)
    (hc : ∀ (i x : Nat), ws[i]? = some x → w.cell? ⟨g, i, none⟩ = some (.int .u64 (x : Int))) (hn : (restFrom (bitOf ws) 0).length = n) (hn9 : n ≤ 65536) (hap : ¬ p = a) (hag : ¬ g = a) :
    Calls Tryz.prog 166 #[.pointer (some ⟨a, 0, none⟩), .pointer (some ⟨p, 0, none⟩)] w fun e w' => e = .returned (.tuple #[]) ∧ Blk w' a 106 [.slice (some ⟨w.heap.size, 0, none⟩) n n] ∧ Blk w' w.heap.size 57 (u16s (restFrom (bitOf ws) 0)) ∧ Kept (fun b => b = a) w w' := by
  obtain ⟨zs, hz, hmk⟩ : ∃ zs : Array Value, zs.toList = u16s (List.replicate n 0) ∧ ∀ W : World, (Instr.makeSlice 59 (.int .i64 (n : Int)) (.int .i64 (n : Int))).run Tryz.prog W = .ok (.slice (some ⟨W.heap.size, 0, none⟩) n n) (W.alloc (.cells zs 57)) :=
    ⟨madeCells #[.int .u16 0] n, by
      have h1 := made_all (.int .u16 0) n rfl
      have h2 := made_length (.int .u16 0) n
      have : (madeCells #[.int .u16 0] n).toList = List.replicate n (.int .u16 0) := List.eq_replicate_iff.2 ⟨h2, h1⟩
      rw [this]; simp [u16s], fun W => run_make_row' (P := Tryz.prog) 59 57 (.int .u16 0) 2 undU16s infoU16 rfl .i64 .i64 n (by omega) (by omega) W⟩
  have hal := hA.lt
  have hgl : g < w.heap.size := by
    obtain ⟨x, hx⟩ : ∃ x, ws[0]? = some x := ⟨_, List.getElem?_eq_getElem (by omega)⟩
    exact World.block_lt_of_cell? w _ (hc 0 x hx)
  have m1 : Mild w (w.alloc (.cells zs 57)) := (Kept.refl _ _).alloc _
  have d0 := m1.cell2 id hp0
  have a0 := (hA.kept m1 id).cell 0
  have af := (hA.kept m1 id).free 0
  simp only [List.getElem?_cons_zero] at a0
  have HA := Lib.hid (hA.kept m1 id)
  have M1 := Lib.hid m1
  have HZ : Hid (Blk (w.alloc (.cells zs 57)) w.heap.size 57 (u16s (List.replicate n 0))) := Lib.hid (by
    rw [← hz]
    have := Blk.new w 57 zs.toList
    simpa using this)
  have Hc := Lib.hid hc
  have Hp := Lib.hid hp
  have Hb := Lib.hid hb
  have Hl := Lib.hid hl
  have Hn := Lib.hid hn
  have HAw := Lib.hid hA
  have HZs := Lib.hid hz
  clear hz m1 hA hc hb hl hn hp HA HZ M1
  go_enter Tryz.func166, Tryz.ntmps166
  go_wp2_with fail
  go_region
  have k2 : Kept (fun b => b = a) w (((w.setCell ⟨a, 0, none⟩ (.slice (some ⟨w.heap.size, 0, none⟩) n n)).alloc (.cells zs 57)).drew) := ((Kept.setCell (S := fun b => b = a) (p := ⟨a, 0, none⟩) (Kept.refl _ _) (fun _ => rfl) _).alloc _).drew
  have HA2 : Hid (Blk (((w.setCell ⟨a, 0, none⟩ (.slice (some ⟨w.heap.size, 0, none⟩) n n)).alloc (.cells zs 57)).drew) a 106 [.slice (some ⟨w.heap.size, 0, none⟩) n n]) := Lib.hid (((HAw.out.set 0 (.slice (some ⟨w.heap.size, 0, none⟩) n n)).alloc _).drew)
  have HZ2 : Hid (Blk (((w.setCell ⟨a, 0, none⟩ (.slice (some ⟨w.heap.size, 0, none⟩) n n)).alloc (.cells zs 57)).drew) w.heap.size 57 (u16s (List.replicate n 0))) := Lib.hid (by
    rw [← HZs.out]
    have := (Blk.new (w.setCell ⟨a, 0, none⟩ (.slice (some ⟨w.heap.size, 0, none⟩) n n)) 57 zs.toList).drew
    simpa using this)
  generalize (((w.setCell ⟨a, 0, none⟩ (.slice (some ⟨w.heap.size, 0, none⟩) n n)).alloc (.cells zs 57)).drew) = W2 at *
  have K2 := Lib.hid k2
  have FI := Lib.hid (bcFill_any p g c w.heap.size n n ws 57 W2 (k2.cell2 hap Hp.out) Hl.out Hb.out (fun i x hx => k2.cell2 hag (Hc.out i x hx)) HZ2.out Hn.out hn9 (by omega))
  have a2 := HA2.out.cell 0
  simp only [List.getElem?_cons_zero] at a2
  clear k2 d0 a0 af hp0
  go_wp2_with (first
    | (go_at_call 168; refine FI.out.mono ?_; rintro ed w3 ⟨rfl, q1, q2⟩)
    | fail)
  go_end0
  exact ⟨rfl, HA2.out.kept q2 (by omega), q1, Kept.then K2.out q2 (fun b hb h => by omega)⟩

set_option maxRecDepth 100000 in
set_option maxHeartbeats 1000000 in
/-- bitmapContainer.toArrayContainer: a new array of the bits' numbers. -/
theorem bcToArr_any (p g c : Nat) (ws l : List Nat) (w : World) (hl : ws.length = 1024) (hb : ∀ x ∈ ws, x < 18446744073709551616) (hx : restFrom (bitOf ws) 0 = l) (h : Parts w (BC p l.length (.slice (some ⟨g, 0, none⟩) 1024 c) ws)) :
    Calls Tryz.prog 157 #[.pointer (some ⟨p, 0, none⟩)] w fun ed w' => ∃ q v, ed = .returned (.pointer (some ⟨q, 0, none⟩)) ∧ SS w [] w' (AC q v l) := by
  have hB : Blk w p 122 [.int .i64 (l.length : Int), .slice (some ⟨g, 0, none⟩) 1024 c] := h.all (B p 122 [.int .i64 (l.length : Int), .slice (some ⟨g, 0, none⟩) 1024 c]) (by simp [BC])
  have ho : Own w 1 23 (.slice (some ⟨g, 0, none⟩) 1024 c) 1024 (u64s ws) := h.all (O 1 23 (.slice (some ⟨g, 0, none⟩) 1024 c) 1024 (u64s ws)) (by simp [BC])
  have hn9 : l.length ≤ 65536 := by rw [← hx]; exact sorted_count (rest_sorted _) 65536 (rest_lt _)
  have hpl := hB.lt
  have hgl := ho.lt g (by simp)
  have k0 : Mild w (w.alloc (.cells #[.slice none 0 0] 106)) := (Kept.refl _ _).alloc _
  have LD := Lib.hid (acLoad_any w.heap.size p g c l.length (.slice none 0 0) ws _ (Blk.new w 106 [.slice none 0 0]) (k0.cell2 id (hB.cell 0)) (k0.cell2 id (hB.cell 1)) hl hb (fun i x hi => k0.cell2 id (Own.cellAt ho (u64s_at hi)).1) (by rw [hx]) hn9 (by omega) (by omega))
  rw [hx] at LD
  have K0 := Lib.hid k0
  clear hB ho h k0 hl hb hx
  go_enter Tryz.func157, Tryz.ntmps157
  go_wp2_with (first
    | (go_at_call 166; refine LD.out.mono ?_; rintro ed w1 ⟨rfl, q1, q2, q3⟩)
    | fail)
  go_ret
  have hs1 : (w.alloc (.cells #[.slice none 0 0] 106)).heap.size = w.heap.size + 1 := by simp
  rw [hs1] at q1 q2
  refine ⟨w.heap.size, .slice (some ⟨w.heap.size + 1, 0, none⟩) l.length l.length, rfl, ⟨⟨fun A hA => ?_, ?_⟩, fun b hb => .inr ?_, (Kept.then K0.out q3 (fun b hb h => by omega)).mono (fun _ _ => False.elim)⟩⟩
  · simp only [AC, List.mem_cons, List.not_mem_nil, or_false] at hA
    rcases hA with rfl | rfl
    · exact q1
    · exact ⟨by simp, .inr ⟨w.heap.size + 1, 0, [], rfl, rfl, by unfold maxLen; omega, by rw [List.append_nil]; exact q2⟩⟩
  · simp [AC, B, O]
  · simp [AC, B, O] at hb; omega
end Go.Proofs
