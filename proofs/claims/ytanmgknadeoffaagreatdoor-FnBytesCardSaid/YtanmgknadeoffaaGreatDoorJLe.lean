/-
  encoding/binary.LittleEndian's Uint16, Uint32, Uint64.
  roaring.byteSliceAsUint16Slice, byteSliceAsUint64Slice, byteSliceAsInterval16Slice.
  roaring.byteSliceAsUint64Slice.
  roaring.byteSliceAsInterval16Slice.
-/
import Derived.Test.YtanmgknadeoffaaGreatDoorJHeap
import Derived.Test.YtanmgknadeoffaaGreatDoorJQpl
import Derived.Test.YtanmgknadeoffaaGreatDoorProg
import Derived.Deep.QuietTactic
import Derived.BigQuiet
import Derived.LoopTactic
import Derived.Outline
import Derived.Lib.EndianBits
import Derived.Deep.DeepCutAuto
import Derived.Deep.RegionHeld3
namespace Go.Roar
open Go.RowKit
theorem leN2 (a b : Nat) : leN [a, b] = a + 256 * b := by simp [leN]
theorem leN4 (a b c d : Nat) : leN [a, b, c, d] = a + 256 * b + 65536 * c + 16777216 * d := by simp [leN]; omega
end Go.Roar
namespace Go.Proofs
open Go.RowKit Go.Roar

theorem or_u16 (b0 b1 : Nat) (h0 : b0 < 256) (h1 : b1 < 256) : bits .or .u16 ((b0 : Int)) ((b1 : Int) * 256) = ((leN [b0, b1] : Nat) : Int) := by
  rw [u16_or8 (b0 : Int) ((b1 : Int) * 256) (by omega) (by omega) (by omega) (by omega) (by omega)]
  simp only [leN]; omega
set_option maxRecDepth 100000 in
set_option maxHeartbeats 1000000 in
theorem le16_any (g o n c b0 b1 : Nat) (w : World) (hn : 2 ≤ n) (c0 : w.cell? ⟨g, o, none⟩ = some (.int .u8 (b0 : Int))) (c1 : w.cell? ⟨g, o + 1, none⟩ = some (.int .u8 (b1 : Int))) (h0 : b0 < 256) (h1 : b1 < 256) :
    Calls Tryz.prog 74 #[.agg #[], .slice (some ⟨g, o, none⟩) n c] w fun e w' => e = .returned (.int .u16 (leN [b0, b1] : Nat)) ∧ Mild w w' := by
  have or := Lib.hid (or_u16 b0 b1 h0 h1)
  have i0 : (0 : Int) < (n : Int) := by omega
  have j0 : 0 < n := by omega
  have i1 : (1 : Int) < (n : Int) := by omega
  have j1 : 1 < n := by omega
  have m0 : Mild w (w.alloc (.cells #[] 127)) := (Kept.refl _ _).alloc _
  replace c0 := m0.cell2 id c0
  replace c1 := m0.cell2 id c1
  go_enter Tryz.func74, Tryz.ntmps74
  go_wp2
  generalize w.alloc (.cells #[] 127) = W at *
  go_quiet (fail)
  go_wp2
  go_ret
  exact ⟨ret_int or.out, m0.drewN _⟩

theorem or_u32 (b0 b1 b2 b3 : Nat) (h0 : b0 < 256) (h1 : b1 < 256) (h2 : b2 < 256) (h3 : b3 < 256) : bits .or .u32 (bits .or .u32 (bits .or .u32 ((b0 : Int)) ((b1 : Int) * 256)) ((b2 : Int) * 65536)) ((b3 : Int) * 16777216) = ((leN [b0, b1, b2, b3] : Nat) : Int) := by
  rw [u32_or8 (b0 : Int) ((b1 : Int) * 256) (by omega) (by omega) (by omega) (by omega) (by omega)]
  rw [u32_or16 ((b0 : Int) + (b1 : Int) * 256) ((b2 : Int) * 65536) (by omega) (by omega) (by omega) (by omega) (by omega)]
  rw [u32_or24 (((b0 : Int) + (b1 : Int) * 256) + (b2 : Int) * 65536) ((b3 : Int) * 16777216) (by omega) (by omega) (by omega) (by omega) (by omega)]
  simp only [leN]; omega
set_option maxRecDepth 100000 in
set_option maxHeartbeats 1000000 in
theorem le32_any (g o n c b0 b1 b2 b3 : Nat) (w : World) (hn : 4 ≤ n) (c0 : w.cell? ⟨g, o, none⟩ = some (.int .u8 (b0 : Int))) (c1 : w.cell? ⟨g, o + 1, none⟩ = some (.int .u8 (b1 : Int))) (c2 : w.cell? ⟨g, o + 2, none⟩ = some (.int .u8 (b2 : Int))) (c3 : w.cell? ⟨g, o + 3, none⟩ = some (.int .u8 (b3 : Int))) (h0 : b0 < 256) (h1 : b1 < 256) (h2 : b2 < 256) (h3 : b3 < 256) :
    Calls Tryz.prog 60 #[.agg #[], .slice (some ⟨g, o, none⟩) n c] w fun e w' => e = .returned (.int .u32 (leN [b0, b1, b2, b3] : Nat)) ∧ Mild w w' := by
  have or := Lib.hid (or_u32 b0 b1 b2 b3 h0 h1 h2 h3)
  have i0 : (0 : Int) < (n : Int) := by omega
  have j0 : 0 < n := by omega
  have i1 : (1 : Int) < (n : Int) := by omega
  have j1 : 1 < n := by omega
  have i2 : (2 : Int) < (n : Int) := by omega
  have j2 : 2 < n := by omega
  have i3 : (3 : Int) < (n : Int) := by omega
  have j3 : 3 < n := by omega
  have m0 : Mild w (w.alloc (.cells #[] 127)) := (Kept.refl _ _).alloc _
  replace c0 := m0.cell2 id c0
  replace c1 := m0.cell2 id c1
  replace c2 := m0.cell2 id c2
  replace c3 := m0.cell2 id c3
  go_enter Tryz.func60, Tryz.ntmps60
  go_wp2
  generalize w.alloc (.cells #[] 127) = W at *
  go_quiet (fail)
  go_wp2
  go_ret
  exact ⟨ret_int or.out, m0.drewN _⟩

theorem or_u64 (b0 b1 b2 b3 b4 b5 b6 b7 : Nat) (h0 : b0 < 256) (h1 : b1 < 256) (h2 : b2 < 256) (h3 : b3 < 256) (h4 : b4 < 256) (h5 : b5 < 256) (h6 : b6 < 256) (h7 : b7 < 256) : bits .or .u64 (bits .or .u64 (bits .or .u64 (bits .or .u64 (bits .or .u64 (bits .or .u64 (bits .or .u64 ((b0 : Int)) ((b1 : Int) * 256)) ((b2 : Int) * 65536)) ((b3 : Int) * 16777216)) ((b4 : Int) * 4294967296)) ((b5 : Int) * 1099511627776)) ((b6 : Int) * 281474976710656)) ((b7 : Int) * 72057594037927936) = ((leN [b0, b1, b2, b3, b4, b5, b6, b7] : Nat) : Int) := by
  rw [u64_or8 (b0 : Int) ((b1 : Int) * 256) (by omega) (by omega) (by omega) (by omega) (by omega)]
  rw [u64_or16 ((b0 : Int) + (b1 : Int) * 256) ((b2 : Int) * 65536) (by omega) (by omega) (by omega) (by omega) (by omega)]
  rw [u64_or24 (((b0 : Int) + (b1 : Int) * 256) + (b2 : Int) * 65536) ((b3 : Int) * 16777216) (by omega) (by omega) (by omega) (by omega) (by omega)]
  rw [u64_or32 ((((b0 : Int) + (b1 : Int) * 256) + (b2 : Int) * 65536) + (b3 : Int) * 16777216) ((b4 : Int) * 4294967296) (by omega) (by omega) (by omega) (by omega) (by omega)]
  rw [u64_or40 (((((b0 : Int) + (b1 : Int) * 256) + (b2 : Int) * 65536) + (b3 : Int) * 16777216) + (b4 : Int) * 4294967296) ((b5 : Int) * 1099511627776) (by omega) (by omega) (by omega) (by omega) (by omega)]
  rw [u64_or48 ((((((b0 : Int) + (b1 : Int) * 256) + (b2 : Int) * 65536) + (b3 : Int) * 16777216) + (b4 : Int) * 4294967296) + (b5 : Int) * 1099511627776) ((b6 : Int) * 281474976710656) (by omega) (by omega) (by omega) (by omega) (by omega)]
  rw [u64_or56 (((((((b0 : Int) + (b1 : Int) * 256) + (b2 : Int) * 65536) + (b3 : Int) * 16777216) + (b4 : Int) * 4294967296) + (b5 : Int) * 1099511627776) + (b6 : Int) * 281474976710656) ((b7 : Int) * 72057594037927936) (by omega) (by omega) (by omega) (by omega) (by omega)]
  simp only [leN]; omega
set_option maxRecDepth 100000 in
set_option maxHeartbeats 1000000 in
theorem le64_any (g o n c b0 b1 b2 b3 b4 b5 b6 b7 : Nat) (w : World) (hn : 8 ≤ n) (c0 : w.cell? ⟨g, o, none⟩ = some (.int .u8 (b0 : Int))) (c1 : w.cell? ⟨g, o + 1, none⟩ = some (.int .u8 (b1 : Int))) (c2 : w.cell? ⟨g, o + 2, none⟩ = some (.int .u8 (b2 : Int))) (c3 : w.cell? ⟨g, o + 3, none⟩ = some (.int .u8 (b3 : Int))) (c4 : w.cell? ⟨g, o + 4, none⟩ = some (.int .u8 (b4 : Int))) (c5 : w.cell? ⟨g, o + 5, none⟩ = some (.int .u8 (b5 : Int))) (c6 : w.cell? ⟨g, o + 6, none⟩ = some (.int .u8 (b6 : Int))) (c7 : w.cell? ⟨g, o + 7, none⟩ = some (.int .u8 (b7 : Int))) (h0 : b0 < 256) (h1 : b1 < 256) (h2 : b2 < 256) (h3 : b3 < 256) (h4 : b4 < 256) (h5 : b5 < 256) (h6 : b6 < 256) (h7 : b7 < 256) :
    Calls Tryz.prog 75 #[.agg #[], .slice (some ⟨g, o, none⟩) n c] w fun e w' => e = .returned (.int .u64 (leN [b0, b1, b2, b3, b4, b5, b6, b7] : Nat)) ∧ Mild w w' := by
  have or := Lib.hid (or_u64 b0 b1 b2 b3 b4 b5 b6 b7 h0 h1 h2 h3 h4 h5 h6 h7)
  have i0 : (0 : Int) < (n : Int) := by omega
  have j0 : 0 < n := by omega
  have i1 : (1 : Int) < (n : Int) := by omega
  have j1 : 1 < n := by omega
  have i2 : (2 : Int) < (n : Int) := by omega
  have j2 : 2 < n := by omega
  have i3 : (3 : Int) < (n : Int) := by omega
  have j3 : 3 < n := by omega
  have i4 : (4 : Int) < (n : Int) := by omega
  have j4 : 4 < n := by omega
  have i5 : (5 : Int) < (n : Int) := by omega
  have j5 : 5 < n := by omega
  have i6 : (6 : Int) < (n : Int) := by omega
  have j6 : 6 < n := by omega
  have i7 : (7 : Int) < (n : Int) := by omega
  have j7 : 7 < n := by omega
  have m0 : Mild w (w.alloc (.cells #[] 127)) := (Kept.refl _ _).alloc _
  replace c0 := m0.cell2 id c0
  replace c1 := m0.cell2 id c1
  replace c2 := m0.cell2 id c2
  replace c3 := m0.cell2 id c3
  replace c4 := m0.cell2 id c4
  replace c5 := m0.cell2 id c5
  replace c6 := m0.cell2 id c6
  replace c7 := m0.cell2 id c7
  go_enter Tryz.func75, Tryz.ntmps75
  go_wp2
  generalize w.alloc (.cells #[] 127) = W at *
  go_quiet (fail)
  go_wp2
  go_ret
  exact ⟨ret_int or.out, m0.drewN _⟩

end Go.Proofs

namespace Go.Proofs
open Go.RowKit Go.Roar

theorem infoU16 : (Tryz.prog.info? 44).map (fun i => (i.zero, i.size, i.bytes)) = some (some (.int .u16 0), 1, 2) := by kernel_rfl
theorem infoU64 : (Tryz.prog.info? 28).map (fun i => (i.zero, i.size, i.bytes)) = some (some (.int .u64 0), 1, 8) := by kernel_rfl
theorem infoIv : (Tryz.prog.info? 178).map (fun i => (i.zero, i.size, i.bytes)) = some (some (.agg #[.int .u16 0, .int .u16 0]), 2, 4) := by kernel_rfl
theorem szU8 : (Tryz.prog.info? 5).map (·.size) = some 1 := by kernel_rfl
theorem undU8s : Tryz.prog.underlying 27 = some (.slice 5) := by kernel_rfl
theorem undU16s : Tryz.prog.underlying 75 = some (.slice 44) := by kernel_rfl
theorem undU64s : Tryz.prog.underlying 142 = some (.slice 28) := by kernel_rfl
theorem undIvs : Tryz.prog.underlying 137 = some (.slice 178) := by kernel_rfl

theorem leN_two {bs : List Nat} {i b0 b1 : Nat} (h0 : bs[i]? = some b0) (h1 : bs[i + 1]? = some b1) : leN ((bs.drop i).take 2) = leN [b0, b1] := by
  obtain ⟨l0, e0⟩ := List.getElem?_eq_some_iff.1 h0
  obtain ⟨l1, e1⟩ := List.getElem?_eq_some_iff.1 h1
  rw [List.drop_eq_getElem_cons l0, List.drop_eq_getElem_cons l1, List.take_succ_cons, List.take_succ_cons, List.take_zero, e0, e1]

set_option maxRecDepth 100000 in
set_option maxHeartbeats 4000000 in
theorem bs16_any (A : Option Addr) (c m : Nat) (bs : List Nat) (w : World) (hm : m ≤ 1000000) (h : RB w A (2 * m) c bs) :
    Calls Tryz.prog 61 #[.slice A (2 * m) c] w fun e w' => ∃ g, e = .returned (.slice (some ⟨g, 0, none⟩) m m) ∧ Blk w' g 44 (u16s (decK 2 bs)) ∧ Mild w w' ∧ w.heap.size ≤ g := by
  obtain ⟨iU, u1, u2, u3, u4⟩ := info_parts infoU16
  have q0 : (2 * (m : Int)) % 2 = 0 := by omega
  have q1 : (2 * (m : Int)) / 2 = (m : Int) := by omega
  have Hh := Lib.hid h
  have hbl : bs.length = 2 * m := h.1
  have hcc : 2 * m ≤ c := h.2.1
  have Hbl := Lib.hid hbl
  clear h hbl
  go_enter Tryz.func61, Tryz.ntmps61
  go_wp2_with (first
    | (at_make; refine wpList_make_blk rfl (.tmp 12) (.tmp 12) 75 rfl 44 iU (.int .u16 0) 1 undU16s u1 u2 u3 .i64 .i64 _ _ m rfl rfl (by omega) (by omega) (by rw [u4]; omega) (by unfold maxLen; omega) ?_; intro w1 hb hk hsz))
  have hzl := made_length (Value.int IntKind.u16 0) (m * 1)
  generalize (madeCells (Value.int IntKind.u16 0).cells (m * 1)).toList = zs at *
  obtain ⟨G, hG⟩ : ∃ G, G = w.heap.size := ⟨_, rfl⟩
  rw [← hG] at hb ⊢
  have HG := Lib.hid hG
  have Hzl := Lib.hid hzl
  clear hzl hG hsz
  go_loopw [16] (fun s wr => ∃ q : Nat, s = .int .i64 q ∧ q ≤ m ∧ Hid (Blk wr G 44 (mix (u16s (decK 2 bs)) zs q)) ∧ Hid (Mild w wr)) (fun s _ => m - (intOf s).toNat)
  case atStart => exact ⟨0, rfl, Nat.zero_le _, by rw [mix_zero]; exact hb, hk⟩
  case round =>
    obtain ⟨q, rfl, hq, Hb, Hm⟩ := hrel
    clear hb hk
    by_cases hlt : q < m
    · obtain ⟨g, o, rfl, hcell⟩ := Hh.out.2.2.2 (by omega)
      obtain ⟨b0, e0⟩ : ∃ b0, bs[2 * q]? = some b0 := ⟨_, List.getElem?_eq_getElem (by rw [Hbl.out]; omega)⟩
      obtain ⟨b1, e1⟩ : ∃ b1, bs[2 * q + 1]? = some b1 := ⟨_, List.getElem?_eq_getElem (by rw [Hbl.out]; omega)⟩
      have d0 := Hh.out.2.2.1 b0 (List.mem_of_getElem? e0)
      have d1 := Hh.out.2.2.1 b1 (List.mem_of_getElem? e1)
      have c0 := Hm.out.cell2 id (hcell _ _ e0)
      have c1 := Hm.out.cell2 id (hcell _ _ e1)
      rw [← Nat.add_assoc] at c1
      have hv : (u16s (decK 2 bs))[q]? = some (.int .u16 (leN [b0, b1] : Nat)) := by
        rw [← leN_two e0 e1]; exact u16s_get (decK_at (by rw [Hbl.out]; omega))
      have hll : (u16s (decK 2 bs)).length = zs.length := by simp [Hzl.out, Hbl.out]
      obtain ⟨x, hx⟩ : ∃ x, (mix (u16s (decK 2 bs)) zs q)[q]? = some x := ⟨_, List.getElem?_eq_getElem (by rw [mix_length _ _ _ hll, Hzl.out]; omega)⟩
      have ca : wr.cell? ⟨G, q, none⟩ = some x := (Hb.out.cell q).trans hx
      have cf := Hb.out.free q
      have sl := fun (W : World) => run_cut_from (P := Tryz.prog) W undU8s szU8 g o (2 * m) c (2 * q) .i64 (2 * (q : Int)) (by omega) (by omega) (by omega)
      have r1 : IntKind.i64.wrap (2 * (q : Int)) = 2 * (q : Int) := IntWalk.i64_in _ (by omega)
      have St := mix_set _ _ (q := q) hll hv
      have HSt := Lib.hid St
      have Hhv := Lib.hid hv
      have Hhx := Lib.hid hx
      clear St hv hx hll e0 e1 hcell
      go_wp2_with fail
      go_region_with (first
        | (go_at_call 74; refine (le16_any g (o + 2 * q) (2 * m - 2 * q) (c - 2 * q) b0 b1 wr.drew (by omega) c0 c1 d0 d1).mono ?_; rintro ed w2 ⟨rfl, hk2⟩; have k2 := hk2.cell2 id ca; have hb2 := Hb.out.drew.kept hk2 id; have f2 := hb2.free q))
      all_goals
        have hb3 := hb2.set q (.int .u16 (leN [b0, b1] : Nat))
        rw [HSt.out] at hb3
        have Hb3 := Lib.hid hb3
        have Hm3 : Hid (Mild w (w2.setCell ⟨G, q, none⟩ (.int .u16 (leN [b0, b1] : Nat)))) := Lib.hid ((Hm.out.drew.trans hk2).setCell (p := ⟨G, q, none⟩) (fun hlt' => by have := HG.out; simp only at hlt'; omega) _)
        clear hb3 hb2 f2 k2
        go_wp2
        go_roundw
        case rel => exact ⟨q + 1, by go_num, by omega, Hb3, Hm3⟩
        case measure => simp only [intOf]; omega
    · obtain rfl : q = m := by omega
      go_wp2
      go_ret
      have hb := Hb.out
      rw [mix_all _ _ (by simp [Hbl.out]) (by rw [Hzl.out]; omega)] at hb
      exact ⟨G, rfl, hb, Hm.out, Nat.le_of_eq HG.out.symm⟩
end Go.Proofs

namespace Go.Proofs
open Go.RowKit Go.Roar

theorem leN_eight {bs : List Nat} {i b0 b1 b2 b3 b4 b5 b6 b7 : Nat} (h0 : bs[i]? = some b0) (h1 : bs[i + 1]? = some b1) (h2 : bs[i + 2]? = some b2) (h3 : bs[i + 3]? = some b3) (h4 : bs[i + 4]? = some b4) (h5 : bs[i + 5]? = some b5) (h6 : bs[i + 6]? = some b6) (h7 : bs[i + 7]? = some b7) : leN ((bs.drop i).take 8) = leN [b0, b1, b2, b3, b4, b5, b6, b7] := by
  obtain ⟨l0, e0⟩ := List.getElem?_eq_some_iff.1 h0
  obtain ⟨l1, e1⟩ := List.getElem?_eq_some_iff.1 h1
  obtain ⟨l2, e2⟩ := List.getElem?_eq_some_iff.1 h2
  obtain ⟨l3, e3⟩ := List.getElem?_eq_some_iff.1 h3
  obtain ⟨l4, e4⟩ := List.getElem?_eq_some_iff.1 h4
  obtain ⟨l5, e5⟩ := List.getElem?_eq_some_iff.1 h5
  obtain ⟨l6, e6⟩ := List.getElem?_eq_some_iff.1 h6
  obtain ⟨l7, e7⟩ := List.getElem?_eq_some_iff.1 h7
  rw [List.drop_eq_getElem_cons l0, List.drop_eq_getElem_cons l1, List.drop_eq_getElem_cons l2, List.drop_eq_getElem_cons l3, List.drop_eq_getElem_cons l4, List.drop_eq_getElem_cons l5, List.drop_eq_getElem_cons l6, List.drop_eq_getElem_cons l7]
  simp only [List.take_succ_cons, List.take_zero, e0, e1, e2, e3, e4, e5, e6, e7]

set_option maxRecDepth 100000 in
set_option maxHeartbeats 4000000 in
theorem bs64_any (A : Option Addr) (c m : Nat) (bs : List Nat) (w : World) (hm : m ≤ 1000000) (h : RB w A (8 * m) c bs) :
    Calls Tryz.prog 63 #[.slice A (8 * m) c] w fun e w' => ∃ g, e = .returned (.slice (some ⟨g, 0, none⟩) m m) ∧ Blk w' g 28 (u64s (decK 8 bs)) ∧ Mild w w' ∧ w.heap.size ≤ g := by
  obtain ⟨iU, u1, u2, u3, u4⟩ := info_parts infoU64
  have q0 : (8 * (m : Int)) % 8 = 0 := by omega
  have q1 : (8 * (m : Int)) / 8 = (m : Int) := by omega
  have Hh := Lib.hid h
  have hbl : bs.length = 8 * m := h.1
  have hcc : 8 * m ≤ c := h.2.1
  have Hbl := Lib.hid hbl
  clear h hbl
  go_enter Tryz.func63, Tryz.ntmps63
  go_wp2_with (first
    | (at_make; refine wpList_make_blk rfl (.tmp 12) (.tmp 12) 142 rfl 28 iU (.int .u64 0) 1 undU64s u1 u2 u3 .i64 .i64 _ _ m rfl rfl (by omega) (by omega) (by rw [u4]; omega) (by unfold maxLen; omega) ?_; intro w1 hb hk hsz))
  have hzl := made_length (Value.int IntKind.u64 0) (m * 1)
  generalize (madeCells (Value.int IntKind.u64 0).cells (m * 1)).toList = zs at *
  obtain ⟨G, hG⟩ : ∃ G, G = w.heap.size := ⟨_, rfl⟩
  rw [← hG] at hb ⊢
  have HG := Lib.hid hG
  have Hzl := Lib.hid hzl
  clear hzl hG hsz
  go_loopw [16] (fun s wr => ∃ q : Nat, s = .int .i64 q ∧ q ≤ m ∧ Hid (Blk wr G 28 (mix (u64s (decK 8 bs)) zs q)) ∧ Hid (Mild w wr)) (fun s _ => m - (intOf s).toNat)
  case atStart => exact ⟨0, rfl, Nat.zero_le _, by rw [mix_zero]; exact hb, hk⟩
  case round =>
    obtain ⟨q, rfl, hq, Hb, Hm⟩ := hrel
    clear hb hk
    by_cases hlt : q < m
    · obtain ⟨g, o, rfl, hcell⟩ := Hh.out.2.2.2 (by omega)
      obtain ⟨b0, e0⟩ : ∃ b0, bs[8 * q]? = some b0 := ⟨_, List.getElem?_eq_getElem (by rw [Hbl.out]; omega)⟩
      obtain ⟨b1, e1⟩ : ∃ b1, bs[8 * q + 1]? = some b1 := ⟨_, List.getElem?_eq_getElem (by rw [Hbl.out]; omega)⟩
      obtain ⟨b2, e2⟩ : ∃ b2, bs[8 * q + 2]? = some b2 := ⟨_, List.getElem?_eq_getElem (by rw [Hbl.out]; omega)⟩
      obtain ⟨b3, e3⟩ : ∃ b3, bs[8 * q + 3]? = some b3 := ⟨_, List.getElem?_eq_getElem (by rw [Hbl.out]; omega)⟩
      obtain ⟨b4, e4⟩ : ∃ b4, bs[8 * q + 4]? = some b4 := ⟨_, List.getElem?_eq_getElem (by rw [Hbl.out]; omega)⟩
      obtain ⟨b5, e5⟩ : ∃ b5, bs[8 * q + 5]? = some b5 := ⟨_, List.getElem?_eq_getElem (by rw [Hbl.out]; omega)⟩
      obtain ⟨b6, e6⟩ : ∃ b6, bs[8 * q + 6]? = some b6 := ⟨_, List.getElem?_eq_getElem (by rw [Hbl.out]; omega)⟩
      obtain ⟨b7, e7⟩ : ∃ b7, bs[8 * q + 7]? = some b7 := ⟨_, List.getElem?_eq_getElem (by rw [Hbl.out]; omega)⟩
      have d0 := Hh.out.2.2.1 b0 (List.mem_of_getElem? e0)
      have c0 := Hm.out.cell2 id (hcell _ _ e0)
      have d1 := Hh.out.2.2.1 b1 (List.mem_of_getElem? e1)
      have c1 := Hm.out.cell2 id (hcell _ _ e1)
      rw [← Nat.add_assoc] at c1
      have d2 := Hh.out.2.2.1 b2 (List.mem_of_getElem? e2)
      have c2 := Hm.out.cell2 id (hcell _ _ e2)
      rw [← Nat.add_assoc] at c2
      have d3 := Hh.out.2.2.1 b3 (List.mem_of_getElem? e3)
      have c3 := Hm.out.cell2 id (hcell _ _ e3)
      rw [← Nat.add_assoc] at c3
      have d4 := Hh.out.2.2.1 b4 (List.mem_of_getElem? e4)
      have c4 := Hm.out.cell2 id (hcell _ _ e4)
      rw [← Nat.add_assoc] at c4
      have d5 := Hh.out.2.2.1 b5 (List.mem_of_getElem? e5)
      have c5 := Hm.out.cell2 id (hcell _ _ e5)
      rw [← Nat.add_assoc] at c5
      have d6 := Hh.out.2.2.1 b6 (List.mem_of_getElem? e6)
      have c6 := Hm.out.cell2 id (hcell _ _ e6)
      rw [← Nat.add_assoc] at c6
      have d7 := Hh.out.2.2.1 b7 (List.mem_of_getElem? e7)
      have c7 := Hm.out.cell2 id (hcell _ _ e7)
      rw [← Nat.add_assoc] at c7
      have hv : (u64s (decK 8 bs))[q]? = some (.int .u64 (leN [b0, b1, b2, b3, b4, b5, b6, b7] : Nat)) := by
        rw [← leN_eight e0 e1 e2 e3 e4 e5 e6 e7]; exact u64s_at (decK_at (by rw [Hbl.out]; omega))
      have hll : (u64s (decK 8 bs)).length = zs.length := by simp [Hzl.out, Hbl.out]
      obtain ⟨x, hx⟩ : ∃ x, (mix (u64s (decK 8 bs)) zs q)[q]? = some x := ⟨_, List.getElem?_eq_getElem (by rw [mix_length _ _ _ hll, Hzl.out]; omega)⟩
      have ca : wr.cell? ⟨G, q, none⟩ = some x := (Hb.out.cell q).trans hx
      have cf := Hb.out.free q
      have sl := fun (W : World) => run_cut_from (P := Tryz.prog) W undU8s szU8 g o (8 * m) c (8 * q) .i64 (8 * (q : Int)) (by omega) (by omega) (by omega)
      have r1 : IntKind.i64.wrap (8 * (q : Int)) = 8 * (q : Int) := IntWalk.i64_in _ (by omega)
      have St := mix_set _ _ (q := q) hll hv
      have HSt := Lib.hid St
      have Hhv := Lib.hid hv
      have Hhx := Lib.hid hx
      clear St hv hx hll e0 e1 e2 e3 e4 e5 e6 e7 hcell
      go_wp2_with fail
      go_region_with (first
        | (go_at_call 75; refine (le64_any g (o + 8 * q) (8 * m - 8 * q) (c - 8 * q) b0 b1 b2 b3 b4 b5 b6 b7 wr.drew (by omega) c0 c1 c2 c3 c4 c5 c6 c7 d0 d1 d2 d3 d4 d5 d6 d7).mono ?_; rintro ed w2 ⟨rfl, hk2⟩; have k2 := hk2.cell2 id ca; have hb2 := Hb.out.drew.kept hk2 id; have f2 := hb2.free q))
      all_goals
        have hb3 := hb2.set q (.int .u64 (leN [b0, b1, b2, b3, b4, b5, b6, b7] : Nat))
        rw [HSt.out] at hb3
        have Hb3 := Lib.hid hb3
        have Hm3 : Hid (Mild w (w2.setCell ⟨G, q, none⟩ (.int .u64 (leN [b0, b1, b2, b3, b4, b5, b6, b7] : Nat)))) := Lib.hid ((Hm.out.drew.trans hk2).setCell (p := ⟨G, q, none⟩) (fun hlt' => by have := HG.out; simp only at hlt'; omega) _)
        clear hb3 hb2 f2 k2
        go_wp2
        go_roundw
        case rel => exact ⟨q + 1, by go_num, by omega, Hb3, Hm3⟩
        case measure => simp only [intOf]; omega
    · obtain rfl : q = m := by omega
      go_wp2
      go_ret
      have hb := Hb.out
      rw [mix_all _ _ (by simp [Hbl.out]) (by rw [Hzl.out]; omega)] at hb
      exact ⟨G, rfl, hb, Hm.out, Nat.le_of_eq HG.out.symm⟩
end Go.Proofs

namespace Go.Proofs
open Go.RowKit Go.Roar

set_option maxRecDepth 100000 in
set_option maxHeartbeats 400000 in
theorem bsIv_any (A : Option Addr) (c m : Nat) (bs : List Nat) (w : World) (hm : m ≤ 1000000) (h : RB w A (4 * m) c bs) :
    Calls Tryz.prog 62 #[.slice A (4 * m) c] w fun e w' => ∃ g, e = .returned (.slice (some ⟨g, 0, none⟩) m m) ∧ Blk w' g 178 (u16s (decK 2 bs)) ∧ Mild w w' ∧ w.heap.size ≤ g := by
  obtain ⟨iU, u1, u2, u3, u4⟩ := info_parts infoIv
  have q0 : (4 * (m : Int)) % 4 = 0 := by omega
  have q1 : (4 * (m : Int)) / 4 = (m : Int) := by omega
  have Hh := Lib.hid h
  have hbl : bs.length = 4 * m := h.1
  have hcc : 4 * m ≤ c := h.2.1
  have Hbl := Lib.hid hbl
  clear h hbl
  go_enter Tryz.func62, Tryz.ntmps62
  go_wp2_with (first
    | (at_make; refine wpList_make_blk rfl (.tmp 12) (.tmp 12) 137 rfl 178 iU (.agg #[.int .u16 0, .int .u16 0]) 2 undIvs u1 u2 u3 .i64 .i64 _ _ m rfl rfl (by omega) (by omega) (by rw [u4]; omega) (by unfold maxLen; omega) ?_; intro w1 hb hk hsz))
  have hzl := made_length (Value.agg #[.int .u16 0, .int .u16 0]) (m * 2)
  generalize (madeCells (Value.agg #[.int .u16 0, .int .u16 0]).cells (m * 2)).toList = zs at *
  obtain ⟨G, hG⟩ : ∃ G, G = w.heap.size := ⟨_, rfl⟩
  rw [← hG] at hb ⊢
  have HG := Lib.hid hG
  have Hzl := Lib.hid hzl
  clear hzl hG hsz
  go_loopw [16] (fun s wr => ∃ q : Nat, s = .int .i64 q ∧ q ≤ m ∧ Hid (Blk wr G 178 (mix (u16s (decK 2 bs)) zs (q * 2))) ∧ Hid (Mild w wr)) (fun s _ => m - (intOf s).toNat)
  case atStart => exact ⟨0, rfl, Nat.zero_le _, by rw [Nat.zero_mul, mix_zero]; exact hb, hk⟩
  case round =>
    obtain ⟨q, rfl, hq, Hb, Hm⟩ := hrel
    clear hb hk
    by_cases hlt : q < m
    · obtain ⟨g, o, rfl, hcell⟩ := Hh.out.2.2.2 (by omega)
      obtain ⟨b0, e0⟩ : ∃ b0, bs[2 * (q * 2)]? = some b0 := ⟨_, List.getElem?_eq_getElem (by rw [Hbl.out]; omega)⟩
      obtain ⟨b1, e1⟩ : ∃ b1, bs[2 * (q * 2) + 1]? = some b1 := ⟨_, List.getElem?_eq_getElem (by rw [Hbl.out]; omega)⟩
      obtain ⟨b2, e2⟩ : ∃ b2, bs[2 * (q * 2 + 1)]? = some b2 := ⟨_, List.getElem?_eq_getElem (by rw [Hbl.out]; omega)⟩
      obtain ⟨b3, e3⟩ : ∃ b3, bs[2 * (q * 2 + 1) + 1]? = some b3 := ⟨_, List.getElem?_eq_getElem (by rw [Hbl.out]; omega)⟩
      have d0 := Hh.out.2.2.1 b0 (List.mem_of_getElem? e0)
      have d1 := Hh.out.2.2.1 b1 (List.mem_of_getElem? e1)
      have d2 := Hh.out.2.2.1 b2 (List.mem_of_getElem? e2)
      have d3 := Hh.out.2.2.1 b3 (List.mem_of_getElem? e3)
      have c0 := Hm.out.cell2 id (hcell _ _ e0)
      have c1 := Hm.out.cell2 id (hcell _ _ e1)
      have c2 := Hm.out.cell2 id (hcell _ _ e2)
      have c3 := Hm.out.cell2 id (hcell _ _ e3)
      rw [show o + 2 * (q * 2) = o + 4 * q by omega] at c0
      rw [show o + (2 * (q * 2) + 1) = o + 4 * q + 1 by omega] at c1
      rw [show o + 2 * (q * 2 + 1) = o + (4 * q + 2) by omega] at c2
      rw [show o + (2 * (q * 2 + 1) + 1) = o + (4 * q + 2) + 1 by omega] at c3
      have hv : (u16s (decK 2 bs))[q * 2]? = some (.int .u16 (leN [b0, b1] : Nat)) := by
        rw [← leN_two e0 e1]; exact u16s_get (decK_at (by rw [Hbl.out]; omega))
      have hv' : (u16s (decK 2 bs))[q * 2 + 1]? = some (.int .u16 (leN [b2, b3] : Nat)) := by
        rw [← leN_two e2 e3]; exact u16s_get (decK_at (by rw [Hbl.out]; omega))
      have hll : (u16s (decK 2 bs)).length = zs.length := by simp [Hzl.out, Hbl.out]; omega
      obtain ⟨x, hx⟩ : ∃ x, (mix (u16s (decK 2 bs)) zs (q * 2))[q * 2]? = some x := ⟨_, List.getElem?_eq_getElem (by rw [mix_length _ _ _ hll, Hzl.out]; omega)⟩
      obtain ⟨x', hx'⟩ : ∃ x, (mix (u16s (decK 2 bs)) zs (q * 2))[q * 2 + 1]? = some x := ⟨_, List.getElem?_eq_getElem (by rw [mix_length _ _ _ hll, Hzl.out]; omega)⟩
      have ca : wr.cell? ⟨G, q * 2, none⟩ = some x := (Hb.out.cell _).trans hx
      have ca' : wr.cell? ⟨G, q * 2 + 1, none⟩ = some x' := (Hb.out.cell _).trans hx'
      have cf := Hb.out.free (q * 2)
      have cf' := Hb.out.free (q * 2 + 1)
      have sl := fun (W : World) => run_cut_from (P := Tryz.prog) W undU8s szU8 g o (4 * m) c (4 * q) .i64 ((q : Int) * 4) (by omega) (by omega) (by omega)
      have sl' := fun (W : World) => run_cut_from (P := Tryz.prog) W undU8s szU8 g o (4 * m) c (4 * q + 2) .i64 ((q : Int) * 4 + 2) (by omega) (by omega) (by omega)
      have l1 : 2 ≤ 4 * m - 4 * q := by omega
      have l2 : 2 ≤ 4 * m - (4 * q + 2) := by omega
      have St := mix_set _ _ (q := q * 2) hll hv
      have St' := mix_set _ _ (q := q * 2 + 1) hll hv'
      have HSt := Lib.hid St
      have HSt' := Lib.hid St'
      clear St hv hx hll e0 e1 hcell St' hv' hx' e2 e3
      have r1 : IntKind.i64.wrap ((q : Int) * 4) = (q : Int) * 4 := IntWalk.i64_in _ (by omega)
      have r2 : IntKind.i64.wrap ((q : Int) * 4 + 2) = (q : Int) * 4 + 2 := IntWalk.i64_in _ (by omega)
      go_wp2_with fail
      have x0 : wr.drew.cell? ⟨g, o + 4 * q, none⟩ = some (.int .u8 (b0 : Int)) := c0
      have x1 : wr.drew.cell? ⟨g, o + 4 * q + 1, none⟩ = some (.int .u8 (b1 : Int)) := c1
      go_region_held3 (fun _ => True) (trivial) (first
        | (go_at_call 74; ((with_reducible refine (le16_any g (o + 4 * q) (4 * m - 4 * q) (c - 4 * q) b0 b1 wr.drew l1 x0 x1 d0 d1).mono ?_); rintro ed w2 ⟨rfl, hk2⟩; have e2 := hk2.cell2 id c2; have e3 := hk2.cell2 id c3))
        | (go_at_call 74; ((with_reducible refine (le16_any g (o + (4 * q + 2)) (4 * m - (4 * q + 2)) (c - (4 * q + 2)) b2 b3 w2 l2 e2 e3 d2 d3).mono ?_); rintro ed w3 ⟨rfl, hk3⟩; have k3 := hk3.cell2 id (hk2.cell2 id ca); have k3' := hk3.cell2 id (hk2.cell2 id ca'); have hb3 := (Hb.out.drew.kept hk2 id).kept hk3 id; have f3 := hb3.free (q * 2); have f3' := hb3.free (q * 2 + 1))))
      have hb4 := (hb3.set (q * 2) (.int .u16 (leN [b0, b1] : Nat))).set (q * 2 + 1) (.int .u16 (leN [b2, b3] : Nat))
      rw [HSt.out, HSt'.out] at hb4
      have Hb4 := Lib.hid hb4
      have Hm4 : Hid (Mild w ((w3.setCell ⟨G, q * 2, none⟩ (.int .u16 (leN [b0, b1] : Nat))).setCell ⟨G, q * 2 + 1, none⟩ (.int .u16 (leN [b2, b3] : Nat)))) := Lib.hid ((((Hm.out.drew.trans hk2).trans hk3).setCell (p := ⟨G, q * 2, none⟩) (fun hlt' => by have := HG.out; simp only at hlt'; omega) _).setCell (p := ⟨G, q * 2 + 1, none⟩) (fun hlt' => by have := HG.out; simp only at hlt'; omega) _)
      clear hb3 hb4 f3 f3' k3 k3'
      go_wp2
      go_roundw
      case rel => exact ⟨q + 1, by go_num, by omega, by rw [Nat.add_mul]; exact Hb4, Hm4⟩
      case measure => simp only [intOf]; omega
    · obtain rfl : q = m := by omega
      go_wp2
      go_ret
      have hb := Hb.out
      rw [mix_all _ _ (by simp [Hbl.out]; omega) (by rw [Hzl.out])] at hb
      exact ⟨G, rfl, hb, Hm.out, Nat.le_of_eq HG.out.symm⟩
end Go.Proofs
