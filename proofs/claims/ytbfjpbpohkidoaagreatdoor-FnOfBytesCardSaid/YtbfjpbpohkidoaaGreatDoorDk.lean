/-
  roaring.byteSliceAsUint16Slice, byteSliceAsUint64Slice, byteSliceAsInterval16Slice.
-/
import Derived.Test.YtbfjpbpohkidoaaGreatDoorMk
import Derived.Deep.DeepCutAuto
namespace Go.Proofs
open Go.RowKit Go.Roar

theorem infoU16 : (Tryz.prog.info? 104).map (fun i => (i.zero, i.size, i.bytes)) = some (some (.int .u16 0), 1, 2) := by kernel_rfl
theorem infoU64 : (Tryz.prog.info? 58).map (fun i => (i.zero, i.size, i.bytes)) = some (some (.int .u64 0), 1, 8) := by kernel_rfl
theorem infoIv : (Tryz.prog.info? 139).map (fun i => (i.zero, i.size, i.bytes)) = some (some (.agg #[.int .u16 0, .int .u16 0]), 2, 4) := by kernel_rfl
theorem szU8 : (Tryz.prog.info? 5).map (·.size) = some 1 := by kernel_rfl
theorem undU8s : Tryz.prog.underlying 34 = some (.slice 5) := by kernel_rfl
theorem undU16s : Tryz.prog.underlying 63 = some (.slice 104) := by kernel_rfl
theorem undU64s : Tryz.prog.underlying 112 = some (.slice 58) := by kernel_rfl
theorem undIvs : Tryz.prog.underlying 107 = some (.slice 139) := by kernel_rfl

theorem leN_two {bs : List Nat} {i b0 b1 : Nat} (h0 : bs[i]? = some b0) (h1 : bs[i + 1]? = some b1) : leN ((bs.drop i).take 2) = leN [b0, b1] := by
  obtain ⟨l0, e0⟩ := List.getElem?_eq_some_iff.1 h0
  obtain ⟨l1, e1⟩ := List.getElem?_eq_some_iff.1 h1
  rw [List.drop_eq_getElem_cons l0, List.drop_eq_getElem_cons l1, List.take_succ_cons, List.take_succ_cons, List.take_zero, e0, e1]

set_option maxRecDepth 100000 in
set_option maxHeartbeats 4000000 in
theorem bs16_any (A : Option Addr) (c m : Nat) (bs : List Nat) (w : World) (hm : m ≤ 1000000) (h : RB w A (2 * m) c bs) :
    Calls Tryz.prog 29 #[.slice A (2 * m) c] w fun e w' => ∃ g, e = .returned (.slice (some ⟨g, 0, none⟩) m m) ∧ Blk w' g 104 (u16s (decK 2 bs)) ∧ Mild w w' ∧ w.heap.size ≤ g := by
  obtain ⟨iU, u1, u2, u3, u4⟩ := info_parts infoU16
  have q0 : (2 * (m : Int)) % 2 = 0 := by omega
  have q1 : (2 * (m : Int)) / 2 = (m : Int) := by omega
  have Hh := Lib.hid h
  have hbl : bs.length = 2 * m := h.1
  have hcc : 2 * m ≤ c := h.2.1
  have Hbl := Lib.hid hbl
  clear h hbl
  go_enter Tryz.func29, Tryz.ntmps29
  go_wp2_with (first
    | (at_make; refine wpList_make_blk rfl (.tmp 12) (.tmp 12) 63 rfl 104 iU (.int .u16 0) 1 undU16s u1 u2 u3 .i64 .i64 _ _ m rfl rfl (by omega) (by omega) (by rw [u4]; omega) (by unfold maxLen; omega) ?_; intro w1 hb hk hsz))
  have hzl := made_length (Value.int IntKind.u16 0) (m * 1)
  generalize (madeCells (Value.int IntKind.u16 0).cells (m * 1)).toList = zs at *
  obtain ⟨G, hG⟩ : ∃ G, G = w.heap.size := ⟨_, rfl⟩
  rw [← hG] at hb ⊢
  have HG := Lib.hid hG
  have Hzl := Lib.hid hzl
  clear hzl hG hsz
  go_loopw [16] (fun s wr => ∃ q : Nat, s = .int .i64 q ∧ q ≤ m ∧ Hid (Blk wr G 104 (mix (u16s (decK 2 bs)) zs q)) ∧ Hid (Mild w wr)) (fun s _ => m - (intOf s).toNat)
  case atStart => exact ⟨0, rfl, Nat.zero_le _, by rw [mix_zero]; exact hb, hk⟩
  case round =>
    obtain ⟨q, rfl, hq, Hb, Hm⟩ := hrel
    clear hb hk
    by_cases hlt : q < m
    · obtain ⟨g, o, rfl, hcell⟩ := Hh.out.2.2.2 (by omega)
      obtain ⟨b0, e0⟩ : ∃ b0, bs[2 * q]? = some b0 := ⟨_, List.getElem?_eq_getElem (by rw [Hbl.out]; omega)⟩
      obtain ⟨b1, e1⟩ : ∃ b1, bs[2 * q + 1]? = some b1 := ⟨_, List.getElem?_eq_getElem (by rw [Hbl.out]; omega)⟩
      have d0 := Hh.out.2.2.1 b0 (List.mem_of_getElem? e0)
      have d1 := Hh.out.2.2.1 b1 (List.mem_of_getElem? e1)
      have c0 := Hm.out.cell2 id (hcell _ _ e0)
      have c1 := Hm.out.cell2 id (hcell _ _ e1)
      rw [← Nat.add_assoc] at c1
      have hv : (u16s (decK 2 bs))[q]? = some (.int .u16 (leN [b0, b1] : Nat)) := by
        rw [← leN_two e0 e1]; exact u16s_get (decK_at (by rw [Hbl.out]; omega))
      have hll : (u16s (decK 2 bs)).length = zs.length := by simp [Hzl.out, Hbl.out]
      obtain ⟨x, hx⟩ : ∃ x, (mix (u16s (decK 2 bs)) zs q)[q]? = some x := ⟨_, List.getElem?_eq_getElem (by rw [mix_length _ _ _ hll, Hzl.out]; omega)⟩
      have ca : wr.cell? ⟨G, q, none⟩ = some x := (Hb.out.cell q).trans hx
      have cf := Hb.out.free q
      have sl := fun (W : World) => run_cut_from (P := Tryz.prog) W undU8s szU8 g o (2 * m) c (2 * q) .i64 (2 * (q : Int)) (by omega) (by omega) (by omega)
      have r1 : IntKind.i64.wrap (2 * (q : Int)) = 2 * (q : Int) := IntWalk.i64_in _ (by omega)
      have St := mix_set _ _ (q := q) hll hv
      have HSt := Lib.hid St
      have Hhv := Lib.hid hv
      have Hhx := Lib.hid hx
      clear St hv hx hll e0 e1 hcell
      go_wp2_with fail
      go_region_with (first
        | (go_at_call 33; refine (le16_any g (o + 2 * q) (2 * m - 2 * q) (c - 2 * q) b0 b1 wr.drew (by omega) c0 c1 d0 d1).mono ?_; rintro ed w2 ⟨rfl, hk2⟩; have k2 := hk2.cell2 id ca; have hb2 := Hb.out.drew.kept hk2 id; have f2 := hb2.free q))
      all_goals
        have hb3 := hb2.set q (.int .u16 (leN [b0, b1] : Nat))
        rw [HSt.out] at hb3
        have Hb3 := Lib.hid hb3
        have Hm3 : Hid (Mild w (w2.setCell ⟨G, q, none⟩ (.int .u16 (leN [b0, b1] : Nat)))) := Lib.hid ((Hm.out.drew.trans hk2).setCell (p := ⟨G, q, none⟩) (fun hlt' => by have := HG.out; simp only at hlt'; omega) _)
        clear hb3 hb2 f2 k2
        go_wp2
        go_roundw
        case rel => exact ⟨q + 1, by go_num, by omega, Hb3, Hm3⟩
        case measure => simp only [intOf]; omega
    · obtain rfl : q = m := by omega
      go_wp2
      go_ret
      have hb := Hb.out
      rw [mix_all _ _ (by simp [Hbl.out]) (by rw [Hzl.out]; omega)] at hb
      exact ⟨G, rfl, hb, Hm.out, Nat.le_of_eq HG.out.symm⟩
end Go.Proofs
