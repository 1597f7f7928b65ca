/-
  spec.body at the kind 1: bits.
-/
import Derived.Test.YtbfjpbpohkidoaaGreatDoorBda
import Derived.Test.YtbfjpbpohkidoaaGreatDoorCr
import Derived.Laws.BitsAllLaws
namespace Go.Roar
open Go.RowKit Go.Proofs
theorem made_u8s (n : Nat) : (madeCells (Value.int IntKind.u8 0).cells (n * 1)).toList = u8s (List.replicate n 0) := by
  rw [Nat.mul_one]
  have h := List.eq_replicate_iff.2 ⟨made_length (Value.int IntKind.u8 0) n, made_all (Value.int IntKind.u8 0) n rfl⟩
  rw [h]; simp [u8s]
theorem u8s_set (l : List Nat) (i x : Nat) : (u8s l).set i (.int .u8 (x : Int)) = u8s (l.set i x) := by simp [u8s, List.map_set]
theorem setBits_step (l : List Nat) (bs : List Nat) (a n : Nat) : (l ++ List.range' a (n + 1)).foldl setBit bs = setBit ((l ++ List.range' a n).foldl setBit bs) (a + n) := by
  rw [List.range'_concat, ← List.append_assoc, List.foldl_append]; simp
end Go.Roar
namespace Go.Proofs
open Go.RowKit Go.Roar

set_option maxRecDepth 100000 in
set_option maxHeartbeats 2000000 in
theorem body1_any (u : Value) (rs : List (Nat × Nat)) (w : World) (hu : RV w u rs) (hr : RgOK 65536 rs) (hl : rs.length ≤ 65536) :
    Calls Tryz.prog 14 #[u, .int .i64 1] w fun e w' => ∃ v, e = .returned v ∧ Own w' 1 5 v (bodyOf rs 1).length (u8s (bodyOf rs 1)) ∧ Mild w w' ∧ (∀ b ∈ blkOf v, w.heap.size ≤ b) := by
  obtain ⟨iU, u1, u2, u3, u4⟩ := info_parts infoU8
  obtain ⟨B, d, rfl, hu⟩ := hu
  have Hu := Lib.hid hu
  have Hr := Lib.hid hr
  have hbd : bodyOf rs 1 = bitBytes (rgNums rs) := by unfold bodyOf; rw [if_neg (by decide), if_pos rfl]
  have Hbd := Lib.hid hbd
  clear hu hr hbd
  generalize hln : rs.length = nr at *
  have Hl := Lib.hid hln
  clear hln
  go_enter Tryz.func14, Tryz.ntmps14
  go_wp2_with (first
    | (at_make; refine wpList_make_blk rfl (.const (.int .i64 8192)) (.const (.int .i64 8192)) 34 rfl 5 iU (.int .u8 0) 1 undU8s u1 u2 u3 .i64 .i64 _ _ 8192 rfl rfl rfl rfl (by rw [u4]; omega) (by unfold maxLen; omega) ?_; intro w1 hbk hk hsz))
  rw [made_u8s] at hbk
  have Hk1 := Lib.hid hk
  have Hbk := Lib.hid hbk
  clear hk hbk
  go_loopw [37] (fun i wr => ∃ k : Nat, i = .int .i64 k ∧ k ≤ nr ∧ Hid (Mild w wr) ∧ Hid (Blk wr w.heap.size 5 (u8s ((rgNums (rs.take k)).foldl setBit (List.replicate 8192 0))))) (fun i _ => nr - (intOf i).toNat)
  case atStart => exact ⟨0, rfl, Nat.zero_le _, Hk1, Hbk⟩
  case round =>
    obtain ⟨k, rfl, hk, Hm, Hb⟩ := hrel
    by_cases hlt : k < nr
    · obtain ⟨r, hx⟩ : ∃ r, rs[k]? = some r := ⟨_, List.getElem?_eq_getElem (by rw [Hl.out]; exact hlt)⟩
      obtain ⟨g, rfl, a1, a2⟩ := Hu.out k r hx
      obtain ⟨r1, r2⟩ := Hr.out.1 r (List.mem_of_getElem? hx)
      have ca := Hm.out.cell2 id a1
      have cb := Hm.out.cell2 id a2
      have i1 : (k : Int) < (nr : Int) := by omega
      have Ht := Lib.hid (rgNums_take hx)
      have Hnb := Lib.hid (Blk.new wr 44 [.int .i64 (r.1 : Int), .int .i64 (r.2 : Int)])
      have Hba := Lib.hid (Hb.out.alloc (.cells #[.int .i64 (r.1 : Int), .int .i64 (r.2 : Int)] 44))
      have Hma := Lib.hid (Hm.out.alloc (.cells #[.int .i64 (r.1 : Int), .int .i64 (r.2 : Int)] 44))
      have hne := Hb.out.lt
      generalize hL : rgNums (rs.take k) = L at *
      clear a1 a2 hx
      go_wp2_with fail
      go_loopw [11] (fun y wx => ∃ x : Nat, y = .int .i64 x ∧ r.1 ≤ x ∧ x ≤ r.2 + 1 ∧ Hid (Mild w wx) ∧ Hid (Blk wx w.heap.size 5 (u8s ((L ++ List.range' r.1 (x - r.1)).foldl setBit (List.replicate 8192 0)))) ∧ Hid (Blk wx wr.heap.size 44 [.int .i64 (r.1 : Int), .int .i64 (r.2 : Int)])) (fun y _ => r.2 + 1 - (intOf y).toNat)
      case atStart => exact ⟨r.1, rfl, Nat.le_refl _, by omega, Hma, Lib.hid (by rw [Nat.sub_self, List.range'_zero, List.append_nil]; exact Hba.out), Hnb⟩
      case round =>
        obtain ⟨x, rfl, x1, x2, Hm2, Hb2, Hq2⟩ := hrel
        have g0 := Hq2.out.cell 0
        have g1 := Hq2.out.cell 1
        simp only [List.getElem?_cons_zero, List.getElem?_cons_succ] at g0 g1
        by_cases hxr : x ≤ r.2
        · have hst := setBits_step L (List.replicate 8192 0) r.1 (x - r.1)
          rw [show x - r.1 + 1 = x + 1 - r.1 by omega, show r.1 + (x - r.1) = x by omega] at hst
          have hbl : ((L ++ List.range' r.1 (x - r.1)).foldl setBit (List.replicate 8192 0)).length = 8192 := by rw [setBits_length, List.length_replicate]
          have hby := setBits_byte (L ++ List.range' r.1 (x - r.1)) (bs := List.replicate 8192 0) (by intro b hb; have := (List.mem_replicate.1 hb).2; omega)
          have Hst := Lib.hid hst
          clear hst
          generalize hM : (L ++ List.range' r.1 (x - r.1)).foldl setBit (List.replicate 8192 0) = M at *
          have hgb := getD_le hby (x / 8)
          have hat : M[x / 8]? = some (M.getD (x / 8) 0) := by rw [List.getD_eq_getElem?_getD, List.getElem?_eq_getElem (by omega)]; rfl
          have c0 : wr.drew.cell? ⟨w.heap.size, x / 8, none⟩ = some (.int .u8 ((M.getD (x / 8) 0 : Nat) : Int)) := (Hb2.out.cell _).trans (u8s_at hat)
          have cf : wr.drew.frozen? ⟨w.heap.size, x / 8, none⟩ = false := Hb2.out.free _
          obtain ⟨_, p8'⟩ := pow_8 (x % 8) (by omega)
          have hor := u8_or_nat (M.getD (x / 8) 0) (2 ^ (x % 8)) hgb p8'
          rw [show ((2 ^ (x % 8) : Nat) : Int) = (2 : Int) ^ (x % 8) by simp] at hor
          have hset : (u8s M).set (x / 8) (.int .u8 ((M.getD (x / 8) 0 ||| 2 ^ (x % 8) : Nat) : Int)) = u8s (setBit M x) := by rw [u8s_set]; rfl
          generalize M.getD (x / 8) 0 = fb at *
          have q8 : (x : Int) / 8 < 8192 := by omega
          have Hset := Lib.hid hset
          clear hset hby hbl hat hM
          go_wp2_with fail
          have d1 : (x : Int).tdiv 8 = (x : Int) / 8 := Int.tdiv_eq_ediv_of_nonneg (by omega)
          have d2 : (x : Int).tmod 8 = (x : Int) % 8 := Int.tmod_eq_emod_of_nonneg (by omega)
          have d3 : ((x : Int) / 8).toNat = x / 8 := by omega
          have d4 : ((x : Int) % 8).toNat = x % 8 := by omega
          have d5 : (0 : Int) ≤ (x : Int) / 8 := by omega
          have d6 : (0 : Int) ≤ (x : Int) % 8 := by omega
          have d7 : IntKind.i64.wrap ((x : Int) / 8) = (x : Int) / 8 := IntWalk.i64_in _ (by omega)
          have d8 : IntKind.i64.wrap ((x : Int) % 8) = (x : Int) % 8 := IntWalk.i64_in _ (by omega)
          refine wp_region_tail 10 (by kernel_rfl) (by decide +kernel) ?_
          simp only [List.take_succ_cons, List.take_zero, List.drop_succ_cons, List.drop_zero]
          repeat still_step
          refine wpStill_nil ?_
          show wpList _ _ _ _ _ _
          clear d1 d2 d5 d6 d7 d8
          go_wp2
          go_roundw
          case rel =>
            refine ⟨x + 1, by go_num, by omega, by omega, Lib.hid (Kept.drew (Kept.setCell (p := ⟨w.heap.size, x / 8, none⟩) Hm2.out (fun h => absurd h (Nat.lt_irrefl _)) _)), Lib.hid ?_, Lib.hid ((Hq2.out.set_ne (by omega) _ _).drew)⟩
            rw [Hst.out, ← Hset.out]
            exact (Hb2.out.set _ _).drew
          case measure => simp only [intOf]; omega
        · obtain rfl : x = r.2 + 1 := by omega
          have e : L ++ List.range' r.1 (r.2 + 1 - r.1) = rgNums (rs.take (k + 1)) := by rw [Ht.out, show r.2 + 1 - r.1 = r.2 - r.1 + 1 by omega]
          rw [e] at Hb2
          go_wp2
          go_roundw
          case rel => exact ⟨k + 1, by go_num, by omega, Hm2, Hb2⟩
          case measure => simp only [intOf]; omega
    · obtain rfl : k = nr := by omega
      go_wp2
      go_ret
      have e : rs.take k = rs := by rw [← Hl.out, List.take_length]
      have hb := Hb.out
      rw [e] at hb
      refine ⟨_, rfl, ?_, Hm.out, by simp⟩
      rw [Hbd.out]
      have hlen : (bitBytes (rgNums rs)).length = 8192 := by unfold bitBytes; rw [setBits_length, List.length_replicate]
      exact ⟨by simp, .inr ⟨w.heap.size, 0, [], by simp [hlen], rfl, by rw [hlen]; unfold maxLen; omega, by rw [List.append_nil]; exact hb⟩⟩
end Go.Proofs
