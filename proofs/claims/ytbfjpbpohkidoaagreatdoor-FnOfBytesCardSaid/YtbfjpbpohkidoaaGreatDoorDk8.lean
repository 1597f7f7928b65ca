/-
  roaring.byteSliceAsUint64Slice.
-/
import Derived.Test.YtbfjpbpohkidoaaGreatDoorDk
namespace Go.Proofs
open Go.RowKit Go.Roar

theorem leN_eight {bs : List Nat} {i b0 b1 b2 b3 b4 b5 b6 b7 : Nat} (h0 : bs[i]? = some b0) (h1 : bs[i + 1]? = some b1) (h2 : bs[i + 2]? = some b2) (h3 : bs[i + 3]? = some b3) (h4 : bs[i + 4]? = some b4) (h5 : bs[i + 5]? = some b5) (h6 : bs[i + 6]? = some b6) (h7 : bs[i + 7]? = some b7) : leN ((bs.drop i).take 8) = leN [b0, b1, b2, b3, b4, b5, b6, b7] := by
  obtain ⟨l0, e0⟩ := List.getElem?_eq_some_iff.1 h0
  obtain ⟨l1, e1⟩ := List.getElem?_eq_some_iff.1 h1
  obtain ⟨l2, e2⟩ := List.getElem?_eq_some_iff.1 h2
  obtain ⟨l3, e3⟩ := List.getElem?_eq_some_iff.1 h3
  obtain ⟨l4, e4⟩ := List.getElem?_eq_some_iff.1 h4
  obtain ⟨l5, e5⟩ := List.getElem?_eq_some_iff.1 h5
  obtain ⟨l6, e6⟩ := List.getElem?_eq_some_iff.1 h6
  obtain ⟨l7, e7⟩ := List.getElem?_eq_some_iff.1 h7
  rw [List.drop_eq_getElem_cons l0, List.drop_eq_getElem_cons l1, List.drop_eq_getElem_cons l2, List.drop_eq_getElem_cons l3, List.drop_eq_getElem_cons l4, List.drop_eq_getElem_cons l5, List.drop_eq_getElem_cons l6, List.drop_eq_getElem_cons l7]
  simp only [List.take_succ_cons, List.take_zero, e0, e1, e2, e3, e4, e5, e6, e7]

set_option maxRecDepth 100000 in
set_option maxHeartbeats 4000000 in
theorem bs64_any (A : Option Addr) (c m : Nat) (bs : List Nat) (w : World) (hm : m ≤ 1000000) (h : RB w A (8 * m) c bs) :
    Calls Tryz.prog 31 #[.slice A (8 * m) c] w fun e w' => ∃ g, e = .returned (.slice (some ⟨g, 0, none⟩) m m) ∧ Blk w' g 58 (u64s (decK 8 bs)) ∧ Mild w w' ∧ w.heap.size ≤ g := by
  obtain ⟨iU, u1, u2, u3, u4⟩ := info_parts infoU64
  have q0 : (8 * (m : Int)) % 8 = 0 := by omega
  have q1 : (8 * (m : Int)) / 8 = (m : Int) := by omega
  have Hh := Lib.hid h
  have hbl : bs.length = 8 * m := h.1
  have hcc : 8 * m ≤ c := h.2.1
  have Hbl := Lib.hid hbl
  clear h hbl
  go_enter Tryz.func31, Tryz.ntmps31
  go_wp2_with (first
    | (at_make; refine wpList_make_blk rfl (.tmp 12) (.tmp 12) 112 rfl 58 iU (.int .u64 0) 1 undU64s u1 u2 u3 .i64 .i64 _ _ m rfl rfl (by omega) (by omega) (by rw [u4]; omega) (by unfold maxLen; omega) ?_; intro w1 hb hk hsz))
  have hzl := made_length (Value.int IntKind.u64 0) (m * 1)
  generalize (madeCells (Value.int IntKind.u64 0).cells (m * 1)).toList = zs at *
  obtain ⟨G, hG⟩ : ∃ G, G = w.heap.size := ⟨_, rfl⟩
  rw [← hG] at hb ⊢
  have HG := Lib.hid hG
  have Hzl := Lib.hid hzl
  clear hzl hG hsz
  go_loopw [16] (fun s wr => ∃ q : Nat, s = .int .i64 q ∧ q ≤ m ∧ Hid (Blk wr G 58 (mix (u64s (decK 8 bs)) zs q)) ∧ Hid (Mild w wr)) (fun s _ => m - (intOf s).toNat)
  case atStart => exact ⟨0, rfl, Nat.zero_le _, by rw [mix_zero]; exact hb, hk⟩
  case round =>
    obtain ⟨q, rfl, hq, Hb, Hm⟩ := hrel
    clear hb hk
    by_cases hlt : q < m
    · obtain ⟨g, o, rfl, hcell⟩ := Hh.out.2.2.2 (by omega)
      obtain ⟨b0, e0⟩ : ∃ b0, bs[8 * q]? = some b0 := ⟨_, List.getElem?_eq_getElem (by rw [Hbl.out]; omega)⟩
      obtain ⟨b1, e1⟩ : ∃ b1, bs[8 * q + 1]? = some b1 := ⟨_, List.getElem?_eq_getElem (by rw [Hbl.out]; omega)⟩
      obtain ⟨b2, e2⟩ : ∃ b2, bs[8 * q + 2]? = some b2 := ⟨_, List.getElem?_eq_getElem (by rw [Hbl.out]; omega)⟩
      obtain ⟨b3, e3⟩ : ∃ b3, bs[8 * q + 3]? = some b3 := ⟨_, List.getElem?_eq_getElem (by rw [Hbl.out]; omega)⟩
      obtain ⟨b4, e4⟩ : ∃ b4, bs[8 * q + 4]? = some b4 := ⟨_, List.getElem?_eq_getElem (by rw [Hbl.out]; omega)⟩
      obtain ⟨b5, e5⟩ : ∃ b5, bs[8 * q + 5]? = some b5 := ⟨_, List.getElem?_eq_getElem (by rw [Hbl.out]; omega)⟩
      obtain ⟨b6, e6⟩ : ∃ b6, bs[8 * q + 6]? = some b6 := ⟨_, List.getElem?_eq_getElem (by rw [Hbl.out]; omega)⟩
      obtain ⟨b7, e7⟩ : ∃ b7, bs[8 * q + 7]? = some b7 := ⟨_, List.getElem?_eq_getElem (by rw [Hbl.out]; omega)⟩
      have d0 := Hh.out.2.2.1 b0 (List.mem_of_getElem? e0)
      have c0 := Hm.out.cell2 id (hcell _ _ e0)
      have d1 := Hh.out.2.2.1 b1 (List.mem_of_getElem? e1)
      have c1 := Hm.out.cell2 id (hcell _ _ e1)
      rw [← Nat.add_assoc] at c1
      have d2 := Hh.out.2.2.1 b2 (List.mem_of_getElem? e2)
      have c2 := Hm.out.cell2 id (hcell _ _ e2)
      rw [← Nat.add_assoc] at c2
      have d3 := Hh.out.2.2.1 b3 (List.mem_of_getElem? e3)
      have c3 := Hm.out.cell2 id (hcell _ _ e3)
      rw [← Nat.add_assoc] at c3
      have d4 := Hh.out.2.2.1 b4 (List.mem_of_getElem? e4)
      have c4 := Hm.out.cell2 id (hcell _ _ e4)
      rw [← Nat.add_assoc] at c4
      have d5 := Hh.out.2.2.1 b5 (List.mem_of_getElem? e5)
      have c5 := Hm.out.cell2 id (hcell _ _ e5)
      rw [← Nat.add_assoc] at c5
      have d6 := Hh.out.2.2.1 b6 (List.mem_of_getElem? e6)
      have c6 := Hm.out.cell2 id (hcell _ _ e6)
      rw [← Nat.add_assoc] at c6
      have d7 := Hh.out.2.2.1 b7 (List.mem_of_getElem? e7)
      have c7 := Hm.out.cell2 id (hcell _ _ e7)
      rw [← Nat.add_assoc] at c7
      have hv : (u64s (decK 8 bs))[q]? = some (.int .u64 (leN [b0, b1, b2, b3, b4, b5, b6, b7] : Nat)) := by
        rw [← leN_eight e0 e1 e2 e3 e4 e5 e6 e7]; exact u64s_at (decK_at (by rw [Hbl.out]; omega))
      have hll : (u64s (decK 8 bs)).length = zs.length := by simp [Hzl.out, Hbl.out]
      obtain ⟨x, hx⟩ : ∃ x, (mix (u64s (decK 8 bs)) zs q)[q]? = some x := ⟨_, List.getElem?_eq_getElem (by rw [mix_length _ _ _ hll, Hzl.out]; omega)⟩
      have ca : wr.cell? ⟨G, q, none⟩ = some x := (Hb.out.cell q).trans hx
      have cf := Hb.out.free q
      have sl := fun (W : World) => run_cut_from (P := Tryz.prog) W undU8s szU8 g o (8 * m) c (8 * q) .i64 (8 * (q : Int)) (by omega) (by omega) (by omega)
      have r1 : IntKind.i64.wrap (8 * (q : Int)) = 8 * (q : Int) := IntWalk.i64_in _ (by omega)
      have St := mix_set _ _ (q := q) hll hv
      have HSt := Lib.hid St
      have Hhv := Lib.hid hv
      have Hhx := Lib.hid hx
      clear St hv hx hll e0 e1 e2 e3 e4 e5 e6 e7 hcell
      go_wp2_with fail
      go_region_with (first
        | (go_at_call 34; refine (le64_any g (o + 8 * q) (8 * m - 8 * q) (c - 8 * q) b0 b1 b2 b3 b4 b5 b6 b7 wr.drew (by omega) c0 c1 c2 c3 c4 c5 c6 c7 d0 d1 d2 d3 d4 d5 d6 d7).mono ?_; rintro ed w2 ⟨rfl, hk2⟩; have k2 := hk2.cell2 id ca; have hb2 := Hb.out.drew.kept hk2 id; have f2 := hb2.free q))
      all_goals
        have hb3 := hb2.set q (.int .u64 (leN [b0, b1, b2, b3, b4, b5, b6, b7] : Nat))
        rw [HSt.out] at hb3
        have Hb3 := Lib.hid hb3
        have Hm3 : Hid (Mild w (w2.setCell ⟨G, q, none⟩ (.int .u64 (leN [b0, b1, b2, b3, b4, b5, b6, b7] : Nat)))) := Lib.hid ((Hm.out.drew.trans hk2).setCell (p := ⟨G, q, none⟩) (fun hlt' => by have := HG.out; simp only at hlt'; omega) _)
        clear hb3 hb2 f2 k2
        go_wp2
        go_roundw
        case rel => exact ⟨q + 1, by go_num, by omega, Hb3, Hm3⟩
        case measure => simp only [intOf]; omega
    · obtain rfl : q = m := by omega
      go_wp2
      go_ret
      have hb := Hb.out
      rw [mix_all _ _ (by simp [Hbl.out]) (by rw [Hzl.out]; omega)] at hb
      exact ⟨G, rfl, hb, Hm.out, Nat.le_of_eq HG.out.symm⟩
end Go.Proofs
