/-
  roaring.bitmapContainer.NextSetBit: the next number of a set of bits.
-/
import Derived.Test.YteagcndpegdojaaGreatDoorProg
import Derived.Test.YteagcndpegdojaaGreatDoorJHeap
import Derived.Test.YteagcndpegdojaaGreatDoorJQpl
import Derived.Shelf.Spec.TrailingZeros
import Derived.LoopTactic
import Derived.Outline
namespace Go.Proofs
open Go.RowKit Go.Roar

/-- The library's table lies as its initialiser lays it. -/
abbrev Tab (w : World) : Prop := TabAt 0 Lib.deBruijn64tab w

set_option maxHeartbeats 1000000 in
theorem tz_core (x k idx : Nat) (w : World) (hx0 : ((x : Int) == 0) = false)
    (key : IntKind.u64.wrap (bits BinOp.and IntKind.u64 (x : Int) (IntKind.u64.wrap (-(x : Int))) * 285870213051353865) / 288230376151711744 = (idx : Int))
    (hi : idx < 64) (hk : k < 64) (hcell : w.cell? ⟨0, idx, none⟩ = some (.int .u8 k)) :
    Calls Tryz.prog 71 #[.int .u64 x] w fun e w' => e = .returned (.int .i64 k) ∧ w = w' := by
  go_enter Tryz.func71, Tryz.ntmps71
  go_wp2_with (simp only [key])
  go_ret
  exact ⟨rfl, rfl⟩

theorem tz_any (x : Nat) (h0 : x ≠ 0) (hx : x < 18446744073709551616) (w : World) (hT : Tab w) :
    Calls Tryz.prog 71 #[.int .u64 x] w fun e w' => e = .returned (.int .i64 (Lib.ctz 64 x)) ∧ w = w' := by
  obtain ⟨hlow, hk⟩ := Lib.lowest_bit 64 x h0 hx
  obtain ⟨hi, htab⟩ := Lib.deBruijn64_at _ hk
  have hcell := hT _ hi
  rw [htab] at hcell
  exact tz_core x _ _ w (by simp; omega) (tz64_key x _ hx h0 hlow) hi hk hcell
end Go.Proofs
namespace Go.Roar
/-- The next number from i on, or -1. -/
def nsb (ws : List Nat) (i : Nat) : Int := match restFrom (bitOf ws) i with | [] => -1 | x :: _ => (x : Int)

theorem Own.at {w : World} {size : Nat} {e : TypeId} {g n c : Nat} {xs : List Value} (h : Own w size e (.slice (some ⟨g, 0, none⟩) n c) n xs) {o : Nat} {v : Value} (ho : xs[o]? = some v) : w.cell? ⟨g, o, none⟩ = some v := by
  obtain ⟨hl, ⟨hv, _⟩ | ⟨g', k, r, hv, hr, hm, hg⟩⟩ := h
  · simp at hv
  · simp only [Value.slice.injEq, Option.some.injEq, Addr.mk.injEq, and_true, true_and] at hv
    obtain ⟨rfl, rfl⟩ := hv
    exact (hg.cell o).trans (by rw [List.getElem?_append_left (List.getElem?_eq_some_iff.1 ho).1]; exact ho)
end Go.Roar
namespace Go.Proofs
open Go.RowKit Go.Roar
theorem tz_int (X : Int) (v : Nat) (h : X = v) (h0 : v ≠ 0) (hx : v < 18446744073709551616) (w : World) (hT : Tab w) :
    Calls Tryz.prog 71 #[.int .u64 X] w fun e w' => e = .returned (.int .i64 (Lib.ctz 64 v)) ∧ w = w' := by
  subst h; exact tz_any v h0 hx w hT
theorem nsb_cons {ws : List Nat} {i a : Nat} {l : List Nat} (h : restFrom (bitOf ws) i = a :: l) : nsb ws i = a := by unfold nsb; rw [h]
theorem nsb_nil {ws : List Nat} {i : Nat} (h : restFrom (bitOf ws) i = []) : nsb ws i = -1 := by unfold nsb; rw [h]
theorem nsb_word {ws : List Nat} {i q y : Nat} (hy : ws[q]? = some y) (hq : q < 1024) (hlt : y < 18446744073709551616) (h0 : y ≠ 0) (hi : i ≤ 64 * q) (hno : ∀ j, i ≤ j → j < 64 * q → bitOf ws j = false) :
    64 * q + Lib.ctz 64 y < 65536 ∧ nsb ws i = ((64 * q + Lib.ctz 64 y : Nat) : Int) := by
  have := bitOf_here ws (64 * q) y (by omega) (by rw [Nat.mul_div_cancel_left _ (by decide)]; exact hy) hlt (by simpa using h0)
  rw [Nat.mul_mod_right, Nat.pow_zero, Nat.div_one] at this
  exact ⟨this.1, nsb_cons (by rw [restFrom_skip _ i (64 * q) (by omega) hi hno]; exact this.2)⟩

set_option maxRecDepth 100000 in
set_option maxHeartbeats 1000000 in
theorem nsb_any (p g c : Nat) (ws : List Nat) (i : Nat) (w : World) (hl : ws.length = 1024) (hb : ∀ x ∈ ws, x < 18446744073709551616) (hi : i ≤ 65536) (hT : Tab w)
    (hv : w.cell? ⟨p, 1, none⟩ = some (.slice (some ⟨g, 0, none⟩) 1024 c)) (ho : Own w 1 62 (.slice (some ⟨g, 0, none⟩) 1024 c) 1024 (u64s ws)) :
    Calls Tryz.prog 63 #[.pointer (some ⟨p, 0, none⟩), .int .u64 i] w fun e w' => e = .returned (.int .i64 (nsb ws i)) ∧ w = w' := by
  have hcell : ∀ (q x : Nat), ws[q]? = some x → w.cell? ⟨g, q, none⟩ = some (.int .u64 (x : Int)) := fun q x h => ho.at (u64s_at h)
  have TZ := fun (X : Int) (v : Nat) (h : X = v) (h0 : v ≠ 0) (hx : v < 18446744073709551616) => tz_int X v h h0 hx w hT
  have Hb := Lib.hid hb
  have Hl := Lib.hid hl
  have Hcell := Lib.hid hcell
  have HTZ := Lib.hid TZ
  clear hb hl hcell TZ ho hT
  rcases Nat.lt_or_ge i 65536 with h | h
  · obtain ⟨x, hx⟩ : ∃ x, ws[i / 64]? = some x := ⟨ws[i / 64]'(by rw [Hl.out]; omega), List.getElem?_eq_getElem _⟩
    have hc := Hcell.out _ x hx
    have hxb := Lib.hid (Hb.out x (List.mem_of_getElem? hx))
    have Hx := Lib.hid hx
    clear hx
    by_cases hz : x / 2 ^ (i % 64) = 0
    · have e1 : ((x : Int) / 2 ^ (i % 64) != 0) = false := by simp; exact_mod_cast hz
      have Hno := Lib.hid (bitOf_gone ws i x Hx.out hz)
      clear hz
      have hi1 : i / 64 < 1024 := by omega
      have hi2 : i < 64 * (i / 64 + 1) := by omega
      go_enter Tryz.func63, Tryz.ntmps63
      go_wp2_with fail
      generalize hk : i / 64 = k0 at *
      have Hk := Lib.hid hk
      clear hk
      go_loop [5] (fun s => ∃ q : Nat, s = .int .u64 q ∧ k0 + 1 ≤ q ∧ q ≤ 1024 ∧ Hid (∀ j, i ≤ j → j < 64 * q → bitOf ws j = false)) (fun s => 1024 - (intOf s).toNat)
      case atStart => exact ⟨k0 + 1, by rw [← Hk.out]; go_num, Nat.le_refl _, by omega, Hno⟩
      case round =>
        obtain ⟨q, rfl, hq1, hq2, hq3⟩ := hrel
        by_cases hq : q < 1024
        · obtain ⟨y, hy⟩ : ∃ y, ws[q]? = some y := ⟨ws[q]'(by rw [Hl.out]; omega), List.getElem?_eq_getElem _⟩
          have hcy := Hcell.out _ y hy
          have hyb := Lib.hid (Hb.out y (List.mem_of_getElem? hy))
          have Hy := Lib.hid hy
          clear hy
          by_cases hy0 : y = 0
          · subst hy0
            go_wp2
            go_round
            case rel =>
              refine ⟨q + 1, by go_num, by omega, by omega, Lib.hid (fun j h1 h2 => ?_)⟩
              rcases Nat.lt_or_ge j (64 * q) with h3 | h3
              · exact hq3.out j h1 h3
              · exact bitOf_zero ws q Hy.out j h3 h2
            case measure => simp only [intOf]; omega
          · have e2 : ((y : Int) != 0) = true := by simp; omega
            have hw := nsb_word Hy.out hq hyb.out hy0 (by omega) hq3.out
            have hw1 := hw.1
            have Hw := Lib.hid hw.2
            have Hy0 := Lib.hid hy0
            clear hw hy0
            go_wp2_with (go_at_call 71; refine (HTZ.out _ y rfl Hy0.out hyb.out).mono ?_; rintro ed w' ⟨rfl, rfl⟩)
            go_ret
            exact ⟨ret_int (by rw [Hw.out]; omega), rfl⟩
        · obtain rfl : q = 1024 := by omega
          go_wp2
          go_ret
          exact ⟨ret_int (nsb_nil (restFrom_none _ _ (fun j h1 h2 => hq3.out j h1 h2))).symm, rfl⟩
    · have e1 : ((x : Int) / 2 ^ (i % 64) != 0) = true := by simp; exact_mod_cast hz
      have hw := bitOf_here ws i x h Hx.out hxb.out hz
      have hw1 := hw.1
      have Hw := Lib.hid (nsb_cons hw.2)
      have Hz := Lib.hid hz
      clear hw hz
      go_enter Tryz.func63, Tryz.ntmps63
      go_wp2_with (go_at_call 71; refine (HTZ.out _ (x / 2 ^ (i % 64)) (by simp) Hz.out (Nat.lt_of_le_of_lt (Nat.div_le_self _ _) hxb.out)).mono ?_; rintro ed w' ⟨rfl, rfl⟩)
      go_ret
      exact ⟨ret_int (by rw [Hw.out]; omega), rfl⟩
  · obtain rfl : i = 65536 := by omega
    go_enter Tryz.func63, Tryz.ntmps63
    go_wp2
    go_ret
    exact ⟨ret_int (nsb_nil (restFrom_end _ _ (Nat.le_refl _))).symm, rfl⟩
end Go.Proofs
