/-
  roaring.byteSliceAsInterval16Slice.
-/
import Derived.Test.YtbfjpbpohkidoaaGreatDoorDk
import Derived.Deep.RegionHeld3
namespace Go.Proofs
open Go.RowKit Go.Roar

set_option maxRecDepth 100000 in
set_option maxHeartbeats 400000 in
theorem bsIv_any (A : Option Addr) (c m : Nat) (bs : List Nat) (w : World) (hm : m ≤ 1000000) (h : RB w A (4 * m) c bs) :
    Calls Tryz.prog 30 #[.slice A (4 * m) c] w fun e w' => ∃ g, e = .returned (.slice (some ⟨g, 0, none⟩) m m) ∧ Blk w' g 139 (u16s (decK 2 bs)) ∧ Mild w w' ∧ w.heap.size ≤ g := by
  obtain ⟨iU, u1, u2, u3, u4⟩ := info_parts infoIv
  have q0 : (4 * (m : Int)) % 4 = 0 := by omega
  have q1 : (4 * (m : Int)) / 4 = (m : Int) := by omega
  have Hh := Lib.hid h
  have hbl : bs.length = 4 * m := h.1
  have hcc : 4 * m ≤ c := h.2.1
  have Hbl := Lib.hid hbl
  clear h hbl
  go_enter Tryz.func30, Tryz.ntmps30
  go_wp2_with (first
    | (at_make; refine wpList_make_blk rfl (.tmp 12) (.tmp 12) 107 rfl 139 iU (.agg #[.int .u16 0, .int .u16 0]) 2 undIvs u1 u2 u3 .i64 .i64 _ _ m rfl rfl (by omega) (by omega) (by rw [u4]; omega) (by unfold maxLen; omega) ?_; intro w1 hb hk hsz))
  have hzl := made_length (Value.agg #[.int .u16 0, .int .u16 0]) (m * 2)
  generalize (madeCells (Value.agg #[.int .u16 0, .int .u16 0]).cells (m * 2)).toList = zs at *
  obtain ⟨G, hG⟩ : ∃ G, G = w.heap.size := ⟨_, rfl⟩
  rw [← hG] at hb ⊢
  have HG := Lib.hid hG
  have Hzl := Lib.hid hzl
  clear hzl hG hsz
  go_loopw [16] (fun s wr => ∃ q : Nat, s = .int .i64 q ∧ q ≤ m ∧ Hid (Blk wr G 139 (mix (u16s (decK 2 bs)) zs (q * 2))) ∧ Hid (Mild w wr)) (fun s _ => m - (intOf s).toNat)
  case atStart => exact ⟨0, rfl, Nat.zero_le _, by rw [Nat.zero_mul, mix_zero]; exact hb, hk⟩
  case round =>
    obtain ⟨q, rfl, hq, Hb, Hm⟩ := hrel
    clear hb hk
    by_cases hlt : q < m
    · obtain ⟨g, o, rfl, hcell⟩ := Hh.out.2.2.2 (by omega)
      obtain ⟨b0, e0⟩ : ∃ b0, bs[2 * (q * 2)]? = some b0 := ⟨_, List.getElem?_eq_getElem (by rw [Hbl.out]; omega)⟩
      obtain ⟨b1, e1⟩ : ∃ b1, bs[2 * (q * 2) + 1]? = some b1 := ⟨_, List.getElem?_eq_getElem (by rw [Hbl.out]; omega)⟩
      obtain ⟨b2, e2⟩ : ∃ b2, bs[2 * (q * 2 + 1)]? = some b2 := ⟨_, List.getElem?_eq_getElem (by rw [Hbl.out]; omega)⟩
      obtain ⟨b3, e3⟩ : ∃ b3, bs[2 * (q * 2 + 1) + 1]? = some b3 := ⟨_, List.getElem?_eq_getElem (by rw [Hbl.out]; omega)⟩
      have d0 := Hh.out.2.2.1 b0 (List.mem_of_getElem? e0)
      have d1 := Hh.out.2.2.1 b1 (List.mem_of_getElem? e1)
      have d2 := Hh.out.2.2.1 b2 (List.mem_of_getElem? e2)
      have d3 := Hh.out.2.2.1 b3 (List.mem_of_getElem? e3)
      have c0 := Hm.out.cell2 id (hcell _ _ e0)
      have c1 := Hm.out.cell2 id (hcell _ _ e1)
      have c2 := Hm.out.cell2 id (hcell _ _ e2)
      have c3 := Hm.out.cell2 id (hcell _ _ e3)
      rw [show o + 2 * (q * 2) = o + 4 * q by omega] at c0
      rw [show o + (2 * (q * 2) + 1) = o + 4 * q + 1 by omega] at c1
      rw [show o + 2 * (q * 2 + 1) = o + (4 * q + 2) by omega] at c2
      rw [show o + (2 * (q * 2 + 1) + 1) = o + (4 * q + 2) + 1 by omega] at c3
      have hv : (u16s (decK 2 bs))[q * 2]? = some (.int .u16 (leN [b0, b1] : Nat)) := by
        rw [← leN_two e0 e1]; exact u16s_get (decK_at (by rw [Hbl.out]; omega))
      have hv' : (u16s (decK 2 bs))[q * 2 + 1]? = some (.int .u16 (leN [b2, b3] : Nat)) := by
        rw [← leN_two e2 e3]; exact u16s_get (decK_at (by rw [Hbl.out]; omega))
      have hll : (u16s (decK 2 bs)).length = zs.length := by simp [Hzl.out, Hbl.out]; omega
      obtain ⟨x, hx⟩ : ∃ x, (mix (u16s (decK 2 bs)) zs (q * 2))[q * 2]? = some x := ⟨_, List.getElem?_eq_getElem (by rw [mix_length _ _ _ hll, Hzl.out]; omega)⟩
      obtain ⟨x', hx'⟩ : ∃ x, (mix (u16s (decK 2 bs)) zs (q * 2))[q * 2 + 1]? = some x := ⟨_, List.getElem?_eq_getElem (by rw [mix_length _ _ _ hll, Hzl.out]; omega)⟩
      have ca : wr.cell? ⟨G, q * 2, none⟩ = some x := (Hb.out.cell _).trans hx
      have ca' : wr.cell? ⟨G, q * 2 + 1, none⟩ = some x' := (Hb.out.cell _).trans hx'
      have cf := Hb.out.free (q * 2)
      have cf' := Hb.out.free (q * 2 + 1)
      have sl := fun (W : World) => run_cut_from (P := Tryz.prog) W undU8s szU8 g o (4 * m) c (4 * q) .i64 ((q : Int) * 4) (by omega) (by omega) (by omega)
      have sl' := fun (W : World) => run_cut_from (P := Tryz.prog) W undU8s szU8 g o (4 * m) c (4 * q + 2) .i64 ((q : Int) * 4 + 2) (by omega) (by omega) (by omega)
      have l1 : 2 ≤ 4 * m - 4 * q := by omega
      have l2 : 2 ≤ 4 * m - (4 * q + 2) := by omega
      have St := mix_set _ _ (q := q * 2) hll hv
      have St' := mix_set _ _ (q := q * 2 + 1) hll hv'
      have HSt := Lib.hid St
      have HSt' := Lib.hid St'
      clear St hv hx hll e0 e1 hcell St' hv' hx' e2 e3
      have r1 : IntKind.i64.wrap ((q : Int) * 4) = (q : Int) * 4 := IntWalk.i64_in _ (by omega)
      have r2 : IntKind.i64.wrap ((q : Int) * 4 + 2) = (q : Int) * 4 + 2 := IntWalk.i64_in _ (by omega)
      go_wp2_with fail
      have x0 : wr.drew.cell? ⟨g, o + 4 * q, none⟩ = some (.int .u8 (b0 : Int)) := c0
      have x1 : wr.drew.cell? ⟨g, o + 4 * q + 1, none⟩ = some (.int .u8 (b1 : Int)) := c1
      go_region_held3 (fun _ => True) (trivial) (first
        | (go_at_call 33; ((with_reducible refine (le16_any g (o + 4 * q) (4 * m - 4 * q) (c - 4 * q) b0 b1 wr.drew l1 x0 x1 d0 d1).mono ?_); rintro ed w2 ⟨rfl, hk2⟩; have e2 := hk2.cell2 id c2; have e3 := hk2.cell2 id c3))
        | (go_at_call 33; ((with_reducible refine (le16_any g (o + (4 * q + 2)) (4 * m - (4 * q + 2)) (c - (4 * q + 2)) b2 b3 w2 l2 e2 e3 d2 d3).mono ?_); rintro ed w3 ⟨rfl, hk3⟩; have k3 := hk3.cell2 id (hk2.cell2 id ca); have k3' := hk3.cell2 id (hk2.cell2 id ca'); have hb3 := (Hb.out.drew.kept hk2 id).kept hk3 id; have f3 := hb3.free (q * 2); have f3' := hb3.free (q * 2 + 1))))
      have hb4 := (hb3.set (q * 2) (.int .u16 (leN [b0, b1] : Nat))).set (q * 2 + 1) (.int .u16 (leN [b2, b3] : Nat))
      rw [HSt.out, HSt'.out] at hb4
      have Hb4 := Lib.hid hb4
      have Hm4 : Hid (Mild w ((w3.setCell ⟨G, q * 2, none⟩ (.int .u16 (leN [b0, b1] : Nat))).setCell ⟨G, q * 2 + 1, none⟩ (.int .u16 (leN [b2, b3] : Nat)))) := Lib.hid ((((Hm.out.drew.trans hk2).trans hk3).setCell (p := ⟨G, q * 2, none⟩) (fun hlt' => by have := HG.out; simp only at hlt'; omega) _).setCell (p := ⟨G, q * 2 + 1, none⟩) (fun hlt' => by have := HG.out; simp only at hlt'; omega) _)
      clear hb3 hb4 f3 f3' k3 k3'
      go_wp2
      go_roundw
      case rel => exact ⟨q + 1, by go_num, by omega, by rw [Nat.add_mul]; exact Hb4, Hm4⟩
      case measure => simp only [intOf]; omega
    · obtain rfl : q = m := by omega
      go_wp2
      go_ret
      have hb := Hb.out
      rw [mix_all _ _ (by simp [Hbl.out]; omega) (by rw [Hzl.out])] at hb
      exact ⟨G, rfl, hb, Hm.out, Nat.le_of_eq HG.out.symm⟩
end Go.Proofs
