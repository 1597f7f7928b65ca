/-
  spec.Bytes: the bytes of a set.
-/
import Derived.Test.YtanmgknadeoffaaGreatDoorJPp
import Derived.Test.YtanmgknadeoffaaGreatDoorJSa
import Derived.Test.YtanmgknadeoffaaGreatDoorKQla
import Derived.Test.YtanmgknadeoffaaGreatDoorJFm
import Derived.Laws.BitsLemmas
import Derived.Deep.DeepCutAuto
import Derived.Deep.RegionHeld3
import Derived.Deep.AppendLies
namespace Go.Roar
open Go.RowKit
theorem bodiesOf_take (qs : List (Nat × List (Nat × Nat))) (kd : List Nat) (i : Nat) : (bodiesOf qs kd).take i = bodiesOf (qs.take i) (kd.take i) := by
  unfold bodiesOf
  rw [← List.map_take, List.zip_eq_zipWith, List.take_zipWith, ← List.zip_eq_zipWith]
/-- The places up to part k. -/
def offU (st : Nat) (qs : List (Nat × List (Nat × Nat))) (kd : List Nat) (bb : Bool) (k : Nat) : List Nat := if bb = true then (List.range k).flatMap fun i => enc32 (st + ((bodiesOf (qs.take i) (kd.take i)).flatten).length) else []
theorem offU_zero (st : Nat) (qs : List (Nat × List (Nat × Nat))) (kd : List Nat) (bb : Bool) : offU st qs kd bb 0 = [] := by unfold offU; simp
theorem offU_succ (st : Nat) (qs : List (Nat × List (Nat × Nat))) (kd : List Nat) (k : Nat) : offU st qs kd true (k + 1) = offU st qs kd true k ++ enc32 (st + ((bodiesOf (qs.take k) (kd.take k)).flatten).length) := by
  unfold offU
  rw [if_pos rfl, if_pos rfl, List.range_succ, List.flatMap_append]
  simp
theorem offU_all {st : Nat} {qs : List (Nat × List (Nat × Nat))} {kd : List Nat} {bb : Bool} {n : Nat} (hn : kd.length = n) (hb : bb = (!(anyRuns kd) || decide (4 ≤ n))) (hs : st = (headOf kd).length + 4 * n + (if bb = true then 4 * n else 0)) : offU st qs kd bb n = offsOf qs kd := by
  subst hn
  unfold offU offsOf
  have e : (bb = true) ↔ (anyRuns kd = false ∨ 4 ≤ kd.length) := by rw [hb]; cases anyRuns kd <;> simp
  by_cases h : bb = true
  · rw [if_pos h, if_pos (e.1 h)]
    rw [if_pos h] at hs
    subst hs
    rw [List.flatMap_def, List.flatMap_def]
    congr 1
    refine List.map_congr_left (fun i _ => ?_)
    unfold posAt
    rw [bodiesOf_take]
  · rw [if_neg h, if_neg (fun h2 => h (e.2 h2))]
end Go.Roar
namespace Go.Proofs
open Go.RowKit Go.Roar
theorem RV.lt {w : World} {v : Value} {rs : List (Nat × Nat)} (h : RV w v rs) (hn : rs ≠ []) : ∀ b ∈ blkOf v, b < w.heap.size := by
  obtain ⟨A, c, rfl, h⟩ := h
  rcases rs with _ | ⟨r, l⟩
  · exact absurd rfl hn
  · obtain ⟨g, rfl, h1, _⟩ := h 0 r rfl
    intro b hb
    simp at hb; subst hb
    rcases Nat.lt_or_ge b w.heap.size with h | h
    · exact h
    · simp [World.cell?, Array.getElem?_eq_none h] at h1
theorem or_head (m : Nat) (h : m < 65536) : bits .or .i64 12347 ((m : Int) * 65536) = ((12347 + m * 65536 : Nat) : Int) := by
  have e := (bits_nat .i64 40 (by decide) (fun n h0 h1 => IntWalk.i64_in _ (by omega)) 12347 (m * 65536) (by decide) (by omega)).2
  have e2 : 12347 ||| m * 65536 = 12347 + m * 65536 := by
    have := Nat.two_pow_add_eq_or_of_lt (i := 16) (b := 12347) (by decide) m
    rw [Nat.or_comm, show m * 65536 = 2 ^ 16 * m by omega, ← this]; omega
  rw [e2] at e
  rw [← e]; simp
theorem body_any (u : Value) (rs : List (Nat × Nat)) (k : Nat) (w : World) (hu : RV w u rs) (hr : RgOK 65536 rs) (hk : k = 0 ∨ k = 1 ∨ k = 2) :
    Calls Tryz.prog 24 #[u, .int .i64 (k : Int)] w fun e w' => ∃ v, e = .returned v ∧ Own w' 1 5 v (bodyOf rs k).length (u8s (bodyOf rs k)) ∧ Mild w w' ∧ (∀ b ∈ blkOf v, w.heap.size ≤ b) := by
  have hl := rg_length rs 0 hr (fun _ _ => Nat.zero_le _) (by omega)
  have hc := rgCard_le rs 0 hr (fun _ _ => Nat.zero_le _) (by omega)
  rcases hk with rfl | rfl | rfl
  · exact body0_any u rs w hu hr (by omega) (by omega)
  · exact body1_any u rs w hu hr (by omega)
  · exact body2_any u rs w hu hr (by omega)
theorem little32 (x : Nat) (w : World) (hx : x < 4294967296) :
    Calls Tryz.prog 23 #[.int .i64 (x : Int), .int .i64 4] w fun e w' => ∃ g c, e = .returned (.slice (some ⟨g, 0, none⟩) 4 c) ∧ Own w' 1 5 (.slice (some ⟨g, 0, none⟩) 4 c) 4 (u8s (enc32 x)) ∧ Mild w w' ∧ w.heap.size ≤ g := by
  have h := little_any x 4 w (by omega) (by omega)
  rw [lit_four hx] at h
  refine h.mono ?_
  rintro e w' ⟨v, rfl, o, k, f⟩
  obtain ⟨g, q, r, rfl, _⟩ := o.open (by omega)
  exact ⟨g, _, rfl, o, k, f g (by simp)⟩

set_option maxRecDepth 100000 in
set_option maxHeartbeats 8000000 in
theorem bytesX_any (u : Value) (s : List (Nat × Nat)) (kv : Value) (kd : List Nat) (w : World) (hu : RV w u s) (hr : RgOK 4294967296 s) (hl : s.length ≤ 1000) (hc : rgCard s ≤ 200000) (hk : KV w kv kd) (hkk : KindsOK (partsOf s) kd) :
    Calls Tryz.prog 11 #[u, kv] w fun e w' => ∃ v offs, e = .returned v ∧ Own w' 1 5 v (wholeOf (partsOf s) kd offs).length (u8s (wholeOf (partsOf s) kd offs)) ∧ offs.length = offLen kd ∧ (∀ b ∈ offs, b < 256) ∧ (wholeOf (partsOf s) kd offs).length ≤ 1000000000 ∧ Mild w w' ∧ offs = offsOf (partsOf s) kd := by
  obtain ⟨iU, zz1, zz2, zz3, zz4⟩ := info_parts infoU8
  have hqo := (partsOf_ok hr).1
  have hqc := partsOf_card hr
  have HP := Lib.hid (parts_any u s w hu hr hl)
  have Hk := Lib.hid hk
  generalize partsOf s = qs at *
  have hn6 := parts_len hqo
  have hkn := hkk.1
  have Hqo := Lib.hid hqo
  have Hqc := Lib.hid hqc
  have Hkk := Lib.hid hkk
  have Hc := Lib.hid hc
  clear hu hr hl hk hqo hqc hkk hc
  obtain ⟨KA, kc, rfl, hk0⟩ := Hk.out
  have Hk0 := Lib.hid hk0
  clear hk0 Hk
  generalize hn : qs.length = n at *
  rw [hkn]
  have Hn := Lib.hid hn
  have Hkn := Lib.hid hkn
  clear hn hkn
  have f0 : (n : Int) + 7 < 70000 := by omega
  have f1 : ((n : Int) + 7).tdiv 8 = (((n + 7) / 8 : Nat) : Int) := by rw [Int.tdiv_eq_ediv_of_nonneg (by omega)]; omega
  go_enter Tryz.func11, Tryz.ntmps11
  go_wp2_with (first
    | (go_at_call 9; refine HP.out.mono ?_; rintro ed w1 ⟨pv, rfl, pv1, k1⟩; obtain ⟨PA, pc, rfl, pv1⟩ := pv1; have Pv1 := Lib.hid pv1; have K1 := Lib.hid k1; clear pv1 k1; rw [Hn.out])
    | (at_make; refine wpList_make_blk rfl (.tmp 24) (.tmp 24) 27 rfl 5 iU (.int .u8 0) 1 undU8s zz1 zz2 zz3 .i64 .i64 _ _ ((n + 7) / 8) rfl rfl rfl rfl (by rw [zz4]; omega) (by unfold maxLen; omega) ?_; intro w2 hbk hk2 hsz))
  clear f0 f1
  rw [made_u8s] at hbk
  obtain ⟨fl, hfl⟩ : ∃ fl, fl = (n + 7) / 8 := ⟨_, rfl⟩
  have Hbk : Hid (Blk w2 w1.heap.size 5 (u8s (flagsTo kd n 0))) := Lib.hid (by rw [flagsTo_zero]; exact hbk)
  have Hk2 := Lib.hid (K1.out.trans hk2)
  have Hw1 := Lib.hid (show w.heap.size ≤ w1.heap.size from K1.out.size)
  have Hk0' := Lib.hid (fun (i k : Nat) (h : kd[i]? = some k) => (Hk0.out i k h))
  have Hk3 := Lib.hid hk2
  clear hbk hk2
  rw [← hfl]
  have Hfl := Lib.hid hfl
  clear hfl
  generalize hF : w1.heap.size = F at *
  have HF := Lib.hid hF
  clear hF
  go_loopw [28, 7] (fun i b wr => ∃ k : Nat, i = .int .i64 k ∧ k ≤ n ∧ b = .bool (anyRuns (kd.take k)) ∧ Hid (Mild w wr) ∧ Hid (Mild w1 wr) ∧ Hid (Blk wr F 5 (u8s (flagsTo kd n k)))) (fun i _ _ => n - (intOf i).toNat)
  case atStart => exact ⟨0, rfl, Nat.zero_le _, rfl, Hk2, Hk3, Hbk⟩
  case round =>
    obtain ⟨k, rfl, hk, rfl, Hm, Hm1, Hb⟩ := hrel
    by_cases hlt : k < n
    · obtain ⟨x, hx⟩ : ∃ x, kd[k]? = some x := ⟨_, List.getElem?_eq_getElem (by rw [Hkn.out]; exact hlt)⟩
      obtain ⟨g, rfl, a1⟩ := Hk0.out k x hx
      have ca := Hm.out.cell2 id a1
      have i1 : (k : Int) < (n : Int) := by omega
      by_cases h2 : x = 2
      · subst h2
        have hst := flagsTo_two (n := n) hx
        have hbl := flagsTo_length kd n k
        have hby := flagsTo_byte kd n k
        have Hst := Lib.hid hst
        have Hae := Lib.hid (anyTo_two hx)
        have hkf := Hfl.out
        clear hst
        generalize flagsTo kd n k = M at *
        have hgb := getD_le hby (k / 8)
        have hat : M[k / 8]? = some (M.getD (k / 8) 0) := by rw [List.getD_eq_getElem?_getD, List.getElem?_eq_getElem (by omega)]; rfl
        have c0 : wr.drew.cell? ⟨F, k / 8, none⟩ = some (.int .u8 ((M.getD (k / 8) 0 : Nat) : Int)) := (Hb.out.cell _).trans (u8s_at hat)
        have cf : wr.drew.frozen? ⟨F, k / 8, none⟩ = false := Hb.out.free _
        obtain ⟨_, p8'⟩ := pow_8 (k % 8) (by omega)
        have hor := u8_or_nat (M.getD (k / 8) 0) (2 ^ (k % 8)) hgb p8'
        rw [show ((2 ^ (k % 8) : Nat) : Int) = (2 : Int) ^ (k % 8) by simp] at hor
        have hset : (u8s M).set (k / 8) (.int .u8 ((M.getD (k / 8) 0 ||| 2 ^ (k % 8) : Nat) : Int)) = u8s (setBit M k) := by rw [u8s_set]; rfl
        generalize M.getD (k / 8) 0 = fb at *
        have q8 : (k : Int) / 8 < (fl : Int) := by omega
        have Hset := Lib.hid hset
        have HFw := Lib.hid (show w.heap.size ≤ F from Hw1.out)
        clear hset hby hbl hat hkf
        go_wp2_with fail
        have d1 : (k : Int).tdiv 8 = (k : Int) / 8 := Int.tdiv_eq_ediv_of_nonneg (by omega)
        have d2 : (k : Int).tmod 8 = (k : Int) % 8 := Int.tmod_eq_emod_of_nonneg (by omega)
        have d3 : ((k : Int) / 8).toNat = k / 8 := by omega
        have d4 : ((k : Int) % 8).toNat = k % 8 := by omega
        have d5 : (0 : Int) ≤ (k : Int) / 8 := by omega
        have d6 : (0 : Int) ≤ (k : Int) % 8 := by omega
        have d7 : IntKind.i64.wrap ((k : Int) / 8) = (k : Int) / 8 := IntWalk.i64_in _ (by omega)
        have d8 : IntKind.i64.wrap ((k : Int) % 8) = (k : Int) % 8 := IntWalk.i64_in _ (by omega)
        refine wp_region_tail 10 (by kernel_rfl) (by decide +kernel) ?_
        simp only [List.take_succ_cons, List.take_zero, List.drop_succ_cons, List.drop_zero]
        repeat still_step
        refine wpStill_nil ?_
        show wpList _ _ _ _ _ _
        clear d1 d2 d5 d6 d7 d8
        go_wp2
        go_roundw
        case rel =>
          refine ⟨k + 1, by go_num, by omega, by rw [Hae.out], Lib.hid (Kept.drew (Kept.setCell (p := ⟨F, k / 8, none⟩) Hm.out (fun h => absurd h (by have := HFw.out; show ¬ F < _; omega)) _)), ?_, Lib.hid ?_⟩
          · exact Lib.hid (Kept.drew (Kept.setCell (p := ⟨F, k / 8, none⟩) Hm1.out (fun h => absurd h (by rw [HF.out]; exact Nat.lt_irrefl _)) _))
          · rw [Hst.out, ← Hset.out]
            exact (Hb.out.set _ _).drew
        case measure => simp only [intOf]; omega
      · have e2 : ((x : Int) == 2) = false := by rw [beq_eq_false_iff_ne]; omega
        have e3 : ¬ (x : Int) = 2 := by omega
        have Hfe := Lib.hid (flagsTo_else (n := n) hx h2)
        have Hae := Lib.hid (anyTo_else hx h2)
        go_wp2_with fail
        go_roundw
        case rel => exact ⟨k + 1, by go_num, by omega, by rw [Hae.out], Hm, Hm1, by rw [Hfe.out]; exact Hb⟩
        case measure => simp only [intOf]; omega
    · obtain rfl : n = k := by omega
      have e : kd.take n = kd := by rw [← Hkn.out, List.take_length]
      rw [e]
      have hfa : flagsTo kd n n = flagsOf kd := by have := flagsTo_all kd; rw [Hkn.out] at this; exact this
      rw [hfa] at Hb
      have hfn := flagsOf_length kd
      rw [Hkn.out, ← Hfl.out] at hfn
      have HoF : Hid (Own wr 1 5 (.slice (some ⟨F, 0, none⟩) fl fl) fl (u8s (flagsOf kd))) := Lib.hid ⟨by simp [hfn], .inr ⟨F, 0, [], rfl, rfl, by have := Hfl.out; unfold maxLen; omega, by rw [List.append_nil]; exact Hb.out⟩⟩
      have hhl := headOf_length kd
      have hfl1 := Hfl.out
      obtain ⟨E0, hE0⟩ : ∃ E, E = enc32 12346 := ⟨_, rfl⟩
      have L1 : Hid (∀ (W : World), Calls Tryz.prog 23 #[.int .i64 (12346 : Int), .int .i64 4] W fun e w' => ∃ g c, e = .returned (.slice (some ⟨g, 0, none⟩) 4 c) ∧ Own w' 1 5 (.slice (some ⟨g, 0, none⟩) 4 c) 4 (u8s E0) ∧ Mild W w' ∧ W.heap.size ≤ g) := Lib.hid (fun W => by rw [hE0]; exact little32 12346 W (by omega))
      have HE0 := Lib.hid hE0
      clear hE0
      have L2 := Lib.hid (fun (W : World) => little32 n W (by omega))
      have Hhl := Lib.hid hhl
      have Hfn := Lib.hid hfn
      have Hfl1 := Lib.hid hfl1
      clear hhl hfn hfa e hfl1
      have HM0 : Hid (Mild w1 (wr.alloc (.cells #[] 5))) := Lib.hid (Hm1.out.alloc _)
      go_upto_if 47 with fail
      go_cut [7, 11] (fun s7 s11 wx => ∃ g c, s7 = .bool (anyRuns kd) ∧ s11 = .slice (some ⟨g, 0, none⟩) (headOf kd).length c ∧ Hid (Mild w1 wx) ∧ Hid (Own wx 1 5 s11 (headOf kd).length (u8s (headOf kd))) ∧ Hid (w1.heap.size ≤ g))
      case first =>
        cases hrn : anyRuns kd
        · have hhd : headOf kd = enc32 12346 ++ enc32 n := by unfold headOf; rw [hrn, Hkn.out]; rfl
          have hhln : (headOf kd).length = 4 + 4 := by rw [hhd]; rfl
          go_wp2_with (first
            | (go_at_call 23; (with_reducible refine (L1.out _).mono ?_); rintro ed w3 ⟨g3, c3, rfl, o3, k3, z3⟩)
            | (go_at_call 23; (with_reducible refine (L2.out _).mono ?_); rintro ed w4 ⟨g4, c4, rfl, o4, k4, z4⟩)
            | (at_builtin; refine wpList_append_own_at _ rfl _ _ 27 rfl 0 5 iU (.int .u8 0) 1 1 undU8s zz1 zz2 zz3 zz4 rfl (by decide) _ 4 (u8s E0) rfl (o3.kept k4 (fun _ _ => id)).toRow ⟨g4, 0, none⟩ 4 c4 (u8s (enc32 n)) rfl rfl (own_news o4) (u8s_each _) (by unfold maxLen; omega) (by omega) (Nat.zero_le _) ?_; intro v' w5 hown' hgrow hnil hat))
          have own5 := Own.ofRow hown'
          obtain ⟨kG, fG⟩ := grow_mild (v := .slice (some ⟨g3, 0, none⟩) 4 c3) (HM0.out.trans k3) k4 hgrow (fun b hb => by simp at hb; have := HM0.out.size; omega) hat
          obtain ⟨g5, k5, r5, rfl, _⟩ := own5.open (by omega)
          rw [← u8s_append, HE0.out, ← hhd] at own5
          have KG := Lib.hid kG
          have OG := Lib.hid own5
          have GG := Lib.hid (fG g5 (by simp))
          clear kG own5 fG hown' hgrow hnil hat
          go_meet
          case rel => exact ⟨g5, _, by rw [hrn], by rw [hhln], KG, by rw [hhln]; exact OG, GG⟩
        · have hn0 : 0 < n := by
            rcases Nat.eq_zero_or_pos n with h | h
            · have hkd : kd = [] := List.eq_nil_of_length_eq_zero (by rw [Hkn.out]; exact h)
              rw [hkd] at hrn; cases hrn
            · exact h
          have hhd : headOf kd = enc32 (12347 + (n - 1) * 65536) ++ flagsOf kd := by unfold headOf; rw [hrn, Hkn.out]; rfl
          have hhln : (headOf kd).length = 4 + fl := by rw [hhd, List.length_append, Hfn.out]; rfl
          have e1 : (n : Int) - 1 = ((n - 1 : Nat) : Int) := by omega
          have e2 := or_head (n - 1) (by omega)
          obtain ⟨X, hX⟩ : ∃ X, X = 12347 + (n - 1) * 65536 := ⟨_, rfl⟩
          have L3 := Lib.hid (fun (W : World) => little32 X W (by omega))
          rw [← hX] at e2 hhd
          have hfl1 : fl ≤ 9000 := by have := Hfl1.out; omega
          generalize n - 1 = n1 at *
          clear hX
          go_wp2_with (first
            | (go_at_call 23; (with_reducible refine (L3.out _).mono ?_); rintro ed w3 ⟨g3, c3, rfl, o3, k3, z3⟩)
            | (at_builtin; refine wpList_append_own_at _ rfl _ _ 27 rfl 0 5 iU (.int .u8 0) 1 1 undU8s zz1 zz2 zz3 zz4 rfl (by decide) _ 4 (u8s (enc32 X)) rfl o3.toRow ⟨F, 0, none⟩ fl fl (u8s (flagsOf kd)) rfl (by simp [Hfn.out]) (own_news ((HoF.out.alloc _).kept k3 (fun _ _ => id))) (u8s_each _) (by unfold maxLen; omega) (by omega) (Nat.zero_le _) ?_; intro v' w5 hown' hgrow hnil hat))
          have own5 := Own.ofRow hown'
          obtain ⟨kG, fG⟩ := grow_mild (v := .slice (some ⟨g3, 0, none⟩) 4 c3) (HM0.out.trans k3) (Kept.refl _ _) hgrow (fun b hb => by simp at hb; have := HM0.out.size; omega) hat
          obtain ⟨g5, k5, r5, rfl, _⟩ := own5.open (by omega)
          rw [← u8s_append, ← hhd] at own5
          have KG := Lib.hid kG
          have OG := Lib.hid own5
          have GG := Lib.hid (fG g5 (by simp))
          clear kG own5 fG hown' hgrow hnil hat
          go_meet
          case rel => exact ⟨g5, _, by rw [hrn], by rw [hhln], KG, by rw [hhln]; exact OG, GG⟩
      case rest =>
        obtain ⟨g0, c0, rfl, rfl, Hm5, Ho5, Hg5⟩ := hcut
        have hq := Hqo.out.2
        have Hq := Lib.hid hq
        have hhl9 : (headOf kd).length ≤ 10000 := by rw [Hhl.out, Hkn.out]; split <;> omega
        have HH := Lib.hid (show ∀ i q, qs[i]? = some q → (descNums (qs.take (i + 1))).flatMap enc16 = (descNums (qs.take i)).flatMap enc16 ++ enc16 q.1 ++ enc16 (rgCard q.2 - 1) from fun i q h => desc_take h)
        have HD0 := Lib.hid (show u8s (headOf kd ++ (descNums (qs.take 0)).flatMap enc16) = u8s (headOf kd) by simp [descNums])
        generalize hHD : headOf kd = HD at *
        have HHD := Lib.hid hHD
        clear hHD hq
        generalize hhl' : HD.length = hl at *
        have Hhl' := Lib.hid hhl'
        clear hhl'
        go_wp2_with fail
        go_loopw [61, 11] (fun i v wr => ∃ (k g c : Nat), i = .int .i64 k ∧ v = .slice (some ⟨g, 0, none⟩) (hl + 4 * k) c ∧ k ≤ n ∧ Hid (Mild w1 wr) ∧ Hid (Own wr 1 5 (.slice (some ⟨g, 0, none⟩) (hl + 4 * k) c) (hl + 4 * k) (u8s (HD ++ (descNums (qs.take k)).flatMap enc16))) ∧ Hid (w1.heap.size ≤ g)) (fun i _ _ => n - (intOf i).toNat)
        case atStart => exact ⟨0, g0, c0, rfl, rfl, Nat.zero_le _, Hm5, by rw [HD0.out]; exact Ho5, Hg5⟩
        case round =>
          obtain ⟨k, g, c, rfl, rfl, hk, Hm, Ho, Hg⟩ := hrel
          by_cases hlt : k < n
          · obtain ⟨q, hx⟩ : ∃ q, qs[k]? = some q := ⟨_, List.getElem?_eq_getElem (by rw [Hn.out]; exact hlt)⟩
            obtain ⟨gp, u, rfl, a1, a2, a3, _, _⟩ := Pv1.out k q hx
            obtain ⟨ul, UA, uc, rfl⟩ : ∃ ul A c, u = .slice A ul c := by obtain ⟨A, c, h, _⟩ := a3; exact ⟨_, A, c, h⟩
            obtain ⟨b1, b2, b3⟩ := Hq.out q (List.mem_of_getElem? hx)
            have ca := Hm.out.cell2 id a1
            have cb := Hm.out.cell2 id a2
            have i1 : (k : Int) < (n : Int) := by omega
            have hdt := HH.out k q hx
            have hrv := a3.mild Hm.out
            have hult := RV.lt a3 b2
            have hgw := Hg.out
            have hcl := rgCard_le q.2 0 b3 (fun _ _ => Nat.zero_le _) (by omega)
            have hcp := card_pos b2
            have hnb := Blk.new wr 37 [.int .i64 (q.1 : Int), .slice UA ul uc]
            have Hoa := Lib.hid (Ho.out.alloc (.cells #[.int .i64 (q.1 : Int), .slice UA ul uc] 37))
            have Hma := Lib.hid (Hm.out.alloc (.cells #[.int .i64 (q.1 : Int), .slice UA ul uc] 37))
            have hva := hrv.mild ((Kept.refl _ _).alloc (.cells #[.int .i64 (q.1 : Int), .slice UA ul uc] 37)).drew
            have hgl := Ho.out.lt g (by simp)
            have LA := Lib.hid (fun (W : World) => little16 q.1 W b1)
            have LB := Lib.hid (fun (W : World) => little16 (rgCard q.2 - 1) W (by omega))
            have LC := Lib.hid (fun (W : World) (h : RV W (.slice UA ul uc) q.2) => count_any _ q.2 W h (fun r hr => by have := b3.1 r hr; omega) (by omega))
            have hcard : (rgCard q.2 : Int) - 1 = ((rgCard q.2 - 1 : Nat) : Int) := by omega
            have Hcells := Lib.hid (show u8s (HD ++ (descNums (qs.take k)).flatMap enc16) ++ u8s (enc16 q.1) ++ u8s (enc16 (rgCard q.2 - 1)) = u8s (HD ++ (descNums (qs.take (k + 1))).flatMap enc16) from by rw [hdt, ← u8s_append, ← u8s_append]; simp only [List.append_assoc])
            have hl2 : hl + 4 * k ≤ 280000 := by omega
            generalize rgCard q.2 - 1 = cd1 at *
            generalize rgCard q.2 = cd at *
            generalize (descNums (qs.take k)).flatMap enc16 = DD at *
            clear a1 a2 a3 hx hdt hrv b1 b2 b3 hcp
            go_wp2_with fail
            have g0 := hnb.cell 0
            have g1 := hnb.cell 1
            simp only [List.getElem?_cons_zero, List.getElem?_cons_succ] at g0 g1
            have ws : IntKind.i64.wrap ((cd : Int) - 1) = (cd1 : Int) := by rw [hcard]; exact IntWalk.i64_in _ (by omega)
            have ws2 : IntKind.i64.wrap (cd1 : Int) = (cd1 : Int) := IntWalk.i64_in _ (by omega)
            have hql := hnb.lt
            have hqd : wr.heap.size < (wr.alloc (.cells #[.int .i64 (q.1 : Int), .slice UA ul uc] 37)).drew.heap.size := hql
            clear hnb
            generalize wr.heap.size = z at *
            have Hug := Lib.hid (show ∀ b ∈ blkOf (.slice UA ul uc), ¬ b = g from fun b hb h => by have := hult b hb; omega)
            have Hub := Lib.hid (show ∀ b ∈ blkOf (.slice UA ul uc), b < z from fun b hb => by have := hult b hb; omega)
            go_region_held3 (fun w' => w'.cell? ⟨z, 0, none⟩ = some (.int .i64 (q.1 : Int)) ∧ w'.cell? ⟨z, 1, none⟩ = some (.slice UA ul uc) ∧ RV w' (.slice UA ul uc) q.2) (first | assumption | exact ⟨g0, g1, hva⟩ | go_keep) (first
              | (go_at_call 23; ((with_reducible refine (LA.out _).mono ?_); rintro ed wA ⟨gA, cA, rfl, oA, kA, fA⟩; have sA := kA.size; have hSA : wA.cell? ⟨z, 0, none⟩ = some (.int .i64 (q.1 : Int)) ∧ wA.cell? ⟨z, 1, none⟩ = some (.slice UA ul uc) ∧ RV wA (.slice UA ul uc) q.2 := (by refine ⟨kA.cell2 id ?_, kA.cell2 id ?_, RV.mild ?_ kA⟩; exact And.left (by assumption); exact And.left (And.right (by assumption)); exact And.right (And.right (by assumption)))))
              | (go_at_call 22; ((with_reducible refine (LC.out _ (And.right (And.right (by assumption)))).mono ?_); rintro ed wC ⟨rfl, kC⟩; have sC := kC.size; have hSC : wC.cell? ⟨z, 0, none⟩ = some (.int .i64 (q.1 : Int)) ∧ wC.cell? ⟨z, 1, none⟩ = some (.slice UA ul uc) ∧ RV wC (.slice UA ul uc) q.2 := (by refine ⟨kC.cell2 id ?_, kC.cell2 id ?_, RV.mild ?_ kC⟩; exact And.left (by assumption); exact And.left (And.right (by assumption)); exact And.right (And.right (by assumption)))))
              | (go_at_call 23; ((with_reducible refine (LB.out _).mono ?_); rintro ed wB ⟨gB, cB, rfl, oB, kB, fB⟩; have sB := kB.size; have hSB : wB.cell? ⟨z, 0, none⟩ = some (.int .i64 (q.1 : Int)) ∧ wB.cell? ⟨z, 1, none⟩ = some (.slice UA ul uc) ∧ RV wB (.slice UA ul uc) q.2 := (by refine ⟨kB.cell2 id ?_, kB.cell2 id ?_, RV.mild ?_ kB⟩; exact And.left (by assumption); exact And.left (And.right (by assumption)); exact And.right (And.right (by assumption)))))
              | (refine step_append_lies _ (by rfl) _ _ _ (by rfl) 0 5 iU (.int .u8 0) 1 1 undU8s zz1 zz2 zz3 zz4 rfl (by omega) (.slice (some ⟨g, 0, none⟩) (hl + 4 * k) c) (hl + 4 * k) (u8s (HD ++ DD)) (by rfl) (by first | exact ((Own_drew Hoa.out).kept kA (fun _ _ => id)).toRow | exact ((Own_drew Hoa.out).kept (kA.trans kC) (fun _ _ => id)).toRow | exact ((Own_drew Hoa.out).kept ((kA.trans kC).trans kB) (fun _ _ => id)).toRow | exact ((Own_drew Hoa.out).kept (kC.trans kA) (fun _ _ => id)).toRow | exact ((Own_drew Hoa.out).kept ((kC.trans kA).trans kB) (fun _ _ => id)).toRow | exact ((Own_drew Hoa.out).kept (kA.trans kB) (fun _ _ => id)).toRow | exact ((Own_drew Hoa.out).kept ((kA.trans kB).trans kC) (fun _ _ => id)).toRow) ⟨gA, 0, none⟩ 2 cA (u8s (enc16 q.1)) (by rfl) (by rfl) (by first | exact own_news oA | exact own_news (oA.kept kC (fun _ _ => id)) | exact own_news ((oA.kept kC (fun _ _ => id)).kept kB (fun _ _ => id)) | exact own_news (oA.kept kB (fun _ _ => id))) (u8s_each _) (by omega) (by unfold maxLen; omega) (by omega) (Nat.zero_le _) _ rfl ?_; intro g5 c5 w5 hown5 hgrow5 hat5 hlt5; have hg5 : g5 = g ∨ z < g5 := hat5.elim (fun h => .inl (by simp [Value.ownBlock] at h; exact h.symm)) (fun h => .inr (by omega)); have k5 : Kept (fun b => b = g) _ w5 := Kept.grown (Kept.refl _ _) hgrow5 (fun kk hkk _ => by simp [Value.ownBlock] at hkk; exact hkk.symm); have s5 := k5.size; have hS5 : w5.cell? ⟨z, 0, none⟩ = some (.int .i64 (q.1 : Int)) ∧ w5.cell? ⟨z, 1, none⟩ = some (.slice UA ul uc) ∧ RV w5 (.slice UA ul uc) q.2 := (by refine ⟨k5.cell2 (by show ¬ z = g; omega) ?_, k5.cell2 (by show ¬ z = g; omega) ?_, RV.kept ?_ k5 Hug.out⟩; exact And.left (by assumption); exact And.left (And.right (by assumption)); exact And.right (And.right (by assumption))))
              | (refine step_append_lies _ (by rfl) _ _ _ (by rfl) 0 5 iU (.int .u8 0) 1 1 undU8s zz1 zz2 zz3 zz4 rfl (by omega) (.slice (some ⟨g5, 0, none⟩) (hl + 4 * k + 2) c5) (hl + 4 * k + 2) (u8s (HD ++ DD) ++ u8s (enc16 q.1)) (by rfl) (by first | exact hown5 | exact ((Own.ofRow hown5).kept kC (fun _ _ => id)).toRow | exact (((Own.ofRow hown5).kept kC (fun _ _ => id)).kept kB (fun _ _ => id)).toRow | exact ((Own.ofRow hown5).kept kB (fun _ _ => id)).toRow) ⟨gB, 0, none⟩ 2 cB (u8s (enc16 cd1)) (by rfl) (by rfl) (by first | exact own_news oB | exact own_news (oB.kept k5 (by intro b hb h; simp at hb; omega))) (u8s_each _) (by omega) (by unfold maxLen; omega) (by omega) (Nat.zero_le _) _ rfl ?_; intro g6 c6 w6 hown6 hgrow6 hat6 hlt6; have k6 : Kept (fun b => b = g5) _ w6 := Kept.grown (Kept.refl _ _) hgrow6 (fun kk hkk _ => by simp [Value.ownBlock] at hkk; exact hkk.symm); have hS6 : w6.cell? ⟨z, 0, none⟩ = some (.int .i64 (q.1 : Int)) ∧ w6.cell? ⟨z, 1, none⟩ = some (.slice UA ul uc) ∧ RV w6 (.slice UA ul uc) q.2 := (by refine ⟨k6.cell2 (by show ¬ z = g5; omega) ?_, k6.cell2 (by show ¬ z = g5; omega) ?_, RV.kept ?_ k6 (fun b hb h => by have := Hub.out b hb; have := Hug.out b hb; omega)⟩; exact And.left (by assumption); exact And.left (And.right (by assumption)); exact And.right (And.right (by assumption))))
              | fail)
            have e4 : hl + 4 * k + 2 + 2 = hl + 4 * (k + 1) := by omega
            have own6 := Own.ofRow hown6
            rw [Hcells.out, e4] at own6
            rw [e4]
            have m6 : Mild w1 w6 := Kept.then (((Kept.then (Hma.out.drew.trans kA) k5 (fun b hb h => by omega)).trans kC).trans kB) k6 (fun b hb h => by omega)
            have g6w : w1.heap.size ≤ g6 := hat6.elim (fun h => by simp [Value.ownBlock] at h; omega) (fun h => by omega)
            have Ho6 := Lib.hid own6
            have Hm6 := Lib.hid m6
            have Hg6 := Lib.hid g6w
            clear own6 m6 g6w hown6 hgrow6 hat6 hown5 hgrow5 hat5 hSA hSB hSC hS5 hS6 oA oB
            go_wp2
            go_roundw
            case rel => exact ⟨k + 1, g6, c6, by go_num, rfl, by omega, Hm6, Ho6, Hg6⟩
            case measure => simp only [intOf]; omega
          · obtain rfl : n = k := by omega
            have eq1 : qs.take n = qs := by rw [← Hn.out, List.take_length]
            have ho := Ho.out
            rw [eq1] at ho
            have Ho7 := Lib.hid ho
            clear Ho ho eq1
            generalize hDD : (descNums qs).flatMap enc16 = DD at *
            have HDD := Lib.hid hDD
            clear hDD
            generalize hrn : anyRuns kd = rn at *
            have Hrn := Lib.hid hrn
            clear hrn
            obtain ⟨bb, hbb⟩ : ∃ bb, bb = (!rn || decide (4 ≤ n)) := ⟨_, rfl⟩
            have Hbb := Lib.hid hbb
            clear hbb
            go_upto_region 23 with fail
            go_cut [85] (fun s wx => s = .bool bb ∧ wx = wr.alloc (.cells #[] 5))
            case first =>
              cases rn
              · obtain rfl : bb = true := by rw [Hbb.out]; rfl
                go_wp2_with fail
                go_meet
                case rel => exact ⟨rfl, rfl⟩
              · have e5 : bb = decide (4 ≤ n) := by rw [Hbb.out]; rfl
                by_cases h4 : 4 ≤ n
                · obtain rfl : bb = true := by rw [e5]; simp [h4]
                  clear e5
                  go_wp2_with fail
                  go_meet
                  case rel => exact ⟨by simp; omega, rfl⟩
                · obtain rfl : bb = false := by rw [e5]; simp [h4]
                  clear e5
                  go_wp2_with fail
                  go_meet
                  case rel => exact ⟨by simp; omega, rfl⟩
            case rest =>
              obtain ⟨rfl, rfl⟩ := hcut
              obtain ⟨st, hst⟩ : ∃ st, st = hl + 4 * n + (if bb = true then 4 * n else 0) := ⟨_, rfl⟩
              have Hst := Lib.hid hst
              clear hst
              go_upto_if 85 with fail
              go_cut [15] (fun s wx => s = .int .i64 (st : Int) ∧ wx = wr.alloc (.cells #[] 5))
              case first =>
                cases bb
                · have e5 := Hst.out
                  rw [if_neg (by simp)] at e5
                  have e6 : (hl : Int) + 4 * (n : Int) = (st : Int) := by omega
                  clear e5
                  go_wp2_with fail
                  go_meet
                  case rel => exact ⟨by first | rfl | rw [e6], rfl⟩
                · have e5 := Hst.out
                  rw [if_pos rfl] at e5
                  have e6 : (hl : Int) + 4 * (n : Int) + 4 * (n : Int) = (st : Int) := by omega
                  clear e5
                  go_wp2_with fail
                  go_meet
                  case rel => exact ⟨by first | rfl | rw [e6], rfl⟩
              case rest =>
                obtain ⟨rfl, rfl⟩ := hcut
                have hqk := Hkk.out
                have Hbs := Lib.hid (show ∀ i, ((bodiesOf (qs.take i) (kd.take i)).flatten).length ≤ 1200000 from fun i => by
                  have := bodies_small (fun q hq => (Hqo.out.2 q hq).2.1) hqk i
                  have h2 := Hqc.out
                  have h3 := Hc.out
                  omega)
                have Hbt := Lib.hid (fun (i : Nat) (q : Nat × List (Nat × Nat)) (x : Nat) (h : qs[i]? = some q) (h' : kd[i]? = some x) => bodies_take h h')
                have Hkx := Lib.hid hqk.2
                have hz0 : wr.heap.size < (wr.alloc (.cells #[] 5)).heap.size := by simp
                have hgl := Ho7.out.lt g (by simp)
                have hw1 := Hm.out.size
                have hg1 := Hg.out
                have Hm8 := Lib.hid (Hm.out.alloc (.cells #[] 5))
                have Ho8 := Lib.hid (Ho7.out.alloc (.cells #[] 5))
                have Hb8 : Hid (Own (wr.alloc (.cells #[] 5)) 1 5 (.slice (some ⟨wr.heap.size, 0, none⟩) 0 0) 0 (u8s [])) := Lib.hid ⟨rfl, .inr ⟨wr.heap.size, 0, [], rfl, rfl, by unfold maxLen; omega, Blk.new wr _ []⟩⟩
                have Hg8 := Lib.hid (show w1.heap.size ≤ g ∧ w1.heap.size ≤ wr.heap.size ∧ ¬ g = wr.heap.size from ⟨hg1, hw1, by omega⟩)
                have hst9 : st ≤ 600000 := by rw [Hst.out]; split <;> omega
                clear hqk hz0 hgl hw1 hg1
                go_wp2_with fail
                go_loopw [92, 11, 14] (fun i v b wx => ∃ (k g c ol g' c' bl : Nat) (offs : List Nat), i = .int .i64 k ∧ v = .slice (some ⟨g, 0, none⟩) ol c ∧ b = .slice (some ⟨g', 0, none⟩) bl c' ∧ k ≤ n ∧ Hid (ol = hl + 4 * n + offs.length) ∧ Hid (offs.length = if bb = true then 4 * k else 0) ∧ Hid ((∀ x ∈ offs, x < 256) ∧ offs = offU st qs kd bb k) ∧ Hid (bl = ((bodiesOf (qs.take k) (kd.take k)).flatten).length) ∧ Hid (Mild w1 wx) ∧ Hid (Own wx 1 5 (.slice (some ⟨g, 0, none⟩) ol c) ol (u8s (HD ++ DD ++ offs))) ∧ Hid (Own wx 1 5 (.slice (some ⟨g', 0, none⟩) bl c') bl (u8s ((bodiesOf (qs.take k) (kd.take k)).flatten))) ∧ Hid (w1.heap.size ≤ g ∧ w1.heap.size ≤ g' ∧ ¬ g = g')) (fun i _ _ _ => n - (intOf i).toNat)
                case atStart => exact ⟨0, g, c, hl + 4 * n, wr.heap.size, 0, 0, [], rfl, rfl, rfl, Nat.zero_le _, Lib.hid rfl, Lib.hid (by simp), Lib.hid ⟨by simp, (offU_zero _ _ _ _).symm⟩, Lib.hid (by simp [bodiesOf]), Hm8, by rw [List.append_nil]; exact Ho8, by rw [show bodiesOf (qs.take 0) (kd.take 0) = [] from rfl]; exact Hb8, Hg8⟩
                case round =>
                  obtain ⟨k, g, c, ol, g', c', bl, offs, rfl, rfl, rfl, hk, Hol, Hofl, Hofb, Hbl, Hm, Ho, Hbo, Hgg⟩ := hrel
                  have hbl9 : bl ≤ 1200000 := by rw [Hbl.out]; exact Hbs.out k
                  have hol9 : ol ≤ 600000 := by
                    have h9 := Hol.out
                    have := Hofl.out
                    split at this <;> omega
                  by_cases hlt : k < n
                  · obtain ⟨q, hx⟩ : ∃ q, qs[k]? = some q := ⟨_, List.getElem?_eq_getElem (by rw [Hn.out]; exact hlt)⟩
                    obtain ⟨x, hkx⟩ : ∃ x, kd[k]? = some x := ⟨_, List.getElem?_eq_getElem (by rw [Hkn.out]; exact hlt)⟩
                    obtain ⟨gp, u, rfl, a1, a2, a3, _, _⟩ := Pv1.out k q hx
                    obtain ⟨ul, UA, uc, rfl⟩ : ∃ ul A c, u = .slice A ul c := by obtain ⟨A, c, h, _⟩ := a3; exact ⟨_, A, c, h⟩
                    obtain ⟨gk, rfl, a4⟩ := Hk0.out k x hkx
                    obtain ⟨b1, b2, b3⟩ := Hq.out q (List.mem_of_getElem? hx)
                    have ca := Hm.out.cell2 id a1
                    have cb := Hm.out.cell2 id a2
                    have ck1 := K1.out.cell2 id a4
                    have Hgkl := Lib.hid (cell_lt ck1)
                    have ck := Hm.out.cell2 id ck1
                    have hx3 : x = 0 ∨ x = 1 ∨ x = 2 := by
                      rcases Hkx.out k q x hx hkx with h | h
                      · exact .inr (.inr h)
                      · split at h
                        · exact .inl h
                        · exact .inr (.inl h)
                    have hbpos : 0 < (bodyOf q.2 x).length := by
                      have hcp := card_pos b2
                      rw [bodyOf_length]
                      rcases hx3 with rfl | rfl | rfl
                      · rw [if_pos rfl]; omega
                      · rw [if_neg (by decide), if_pos rfl]; omega
                      · rw [if_neg (by decide), if_neg (by decide)]; omega
                    have hbt := Hbt.out k q x hx hkx
                    have hbl1 := Hbs.out (k + 1)
                    rw [hbt, List.length_append, ← Hbl.out] at hbl1
                    have i1 : (k : Int) < (n : Int) := by omega
                    have Lb := Lib.hid (fun (W : World) (h : Mild w1 W) => body_any (.slice UA ul uc) q.2 x W (a3.mild h) b3 hx3)
                    have hnb := Blk.new wr 37 [.int .i64 (q.1 : Int), .slice UA ul uc]
                    have HoA := Lib.hid (Ho.out.alloc (.cells #[.int .i64 (q.1 : Int), .slice UA ul uc] 37))
                    have HbA := Lib.hid (Hbo.out.alloc (.cells #[.int .i64 (q.1 : Int), .slice UA ul uc] 37))
                    have HmA := Lib.hid (Hm.out.alloc (.cells #[.int .i64 (q.1 : Int), .slice UA ul uc] 37))
                    have Hgl := Lib.hid (show g < wr.heap.size ∧ g' < wr.heap.size from ⟨Ho.out.lt g (by simp), Hbo.out.lt g' (by simp)⟩)
                    have Hbt2 := Lib.hid hbt
                    have Hbpos := Lib.hid hbpos
                    generalize hBN : bodyOf q.2 x = BN at *
                    clear a1 a2 a3 a4 hx hkx b1 b2 b3 hbt hbpos hBN hx3
                    go_upto_region 28 with fail
                    generalize hz : wr.heap.size = z at *
                    have Hz := Lib.hid hz
                    clear hz
                    go_cut [102] (fun s wx => s = .bool bb ∧ wx = wr.alloc (.cells #[.int .i64 (q.1 : Int), .slice UA ul uc] 37))
                    case first =>
                      cases rn
                      · obtain rfl : bb = true := by rw [Hbb.out]; rfl
                        go_wp2_with fail
                        go_meet
                        case rel => exact ⟨rfl, rfl⟩
                      · have e5 : bb = decide (4 ≤ n) := by rw [Hbb.out]; rfl
                        by_cases h4 : 4 ≤ n
                        · obtain rfl : bb = true := by rw [e5]; simp [h4]
                          clear e5
                          go_wp2_with fail
                          go_meet
                          case rel => exact ⟨by simp; omega, rfl⟩
                        · obtain rfl : bb = false := by rw [e5]; simp [h4]
                          clear e5
                          go_wp2_with fail
                          go_meet
                          case rel => exact ⟨by simp; omega, rfl⟩
                    case rest =>
                      obtain ⟨rfl, rfl⟩ := hcut
                      have hst10 : st + bl < 4294967296 := by omega
                      have L4 : Hid (∀ (W : World), Calls Tryz.prog 23 #[.int .i64 ((st : Int) + (bl : Int)), .int .i64 4] W fun e w' => ∃ g c, e = .returned (.slice (some ⟨g, 0, none⟩) 4 c) ∧ Own w' 1 5 (.slice (some ⟨g, 0, none⟩) 4 c) 4 (u8s (enc32 (st + bl))) ∧ Mild W w' ∧ W.heap.size ≤ g) := Lib.hid (fun W => by have h := little32 (st + bl) W hst10; rw [Int.natCast_add] at h; exact h)
                      go_upto_if 102 with fail
                      go_cut [11] (fun s wx => ∃ (g c ol : Nat) (offs : List Nat), s = .slice (some ⟨g, 0, none⟩) ol c ∧ Hid (ol = hl + 4 * n + offs.length) ∧ Hid (offs.length = if bb = true then 4 * (k + 1) else 0) ∧ Hid ((∀ x ∈ offs, x < 256) ∧ offs = offU st qs kd bb (k + 1)) ∧ Hid (Mild w1 wx) ∧ Hid (Own wx 1 5 (.slice (some ⟨g, 0, none⟩) ol c) ol (u8s (HD ++ DD ++ offs))) ∧ Hid (Own wx 1 5 (.slice (some ⟨g', 0, none⟩) bl c') bl (u8s ((bodiesOf (qs.take k) (kd.take k)).flatten))) ∧ Hid (w1.heap.size ≤ g ∧ w1.heap.size ≤ g' ∧ ¬ g = g') ∧ Hid (Blk wx z 37 [.int .i64 (q.1 : Int), .slice UA ul uc]))
                      case first =>
                        cases bb
                        · have e7 := Hofl.out
                          rw [if_neg (by simp)] at e7
                          have E7 := Lib.hid e7
                          clear e7
                          have Hn' := Lib.hid hnb
                          clear hnb
                          go_wp2_with fail
                          go_meet
                          case rel => exact ⟨g, c, ol, offs, rfl, Hol, Lib.hid (by rw [E7.out]; rfl), Lib.hid ⟨Hofb.out.1, by rw [Hofb.out.2]; rfl⟩, HmA, HoA, HbA, Hgg, Hn'⟩
                        · have e7 := Hofl.out
                          rw [if_pos rfl] at e7
                          have E7 := Lib.hid e7
                          clear e7
                          have Hn' := Lib.hid hnb
                          have hbg : ∀ b ∈ blkOf (.slice (some ⟨g', 0, none⟩) bl c'), b ∉ blkOf (.slice (some ⟨g, 0, none⟩) ol c) := fun b hb h => by
                            have := Hgg.out; simp at hb h; omega
                          have Hbg := Lib.hid hbg
                          clear hnb hbg
                          go_wp2_with (first
                            | (go_at_call 23; (with_reducible refine (L4.out _).mono ?_); rintro ed w4 ⟨g4, c4, rfl, o4, k4, z4⟩)
                            | (at_builtin; refine wpList_append_own_at _ rfl _ _ 27 rfl 0 5 iU (.int .u8 0) 1 1 undU8s zz1 zz2 zz3 zz4 rfl (by decide) _ ol (u8s (HD ++ DD ++ offs)) rfl (HoA.out.kept k4 (fun _ _ => id)).toRow ⟨g4, 0, none⟩ 4 c4 (u8s (enc32 (st + bl))) rfl rfl (own_news o4) (u8s_each _) (by unfold maxLen; omega) (by omega) (Nat.zero_le _) ?_; intro v' w5 hown' hgrow hnil hat))
                          have own5 := Own.ofRow hown'
                          obtain ⟨kG, fG⟩ := grow_mild (v := .slice (some ⟨g, 0, none⟩) ol c) HmA.out k4 hgrow (fun b hb => by have := Hgg.out; simp at hb; omega) hat
                          obtain ⟨oG, dG⟩ := grow_apart (v := .slice (some ⟨g, 0, none⟩) ol c) (HbA.out.kept k4 (fun _ _ => id)) Hbg.out hgrow hat
                          have hpz := (Hn'.out.kept k4 id).kept (grow_kept (v := .slice (some ⟨g, 0, none⟩) ol c) hgrow hat).1 (fun h => by have := Hgl.out; simp at h; omega)
                          obtain ⟨g5, k5, r5, rfl, _⟩ := own5.open (by omega)
                          rw [← u8s_append, List.append_assoc] at own5
                          have h7 := E7.out
                          have h8 := Hol.out
                          have O5 : Hid (Own w5 1 5 (.slice (some ⟨g5, 0, none⟩) (ol + 4) (ol + 4 + k5)) (ol + 4) (u8s (HD ++ DD ++ (offs ++ enc32 (st + bl))))) := Lib.hid own5
                          have KG := Lib.hid kG
                          have OG := Lib.hid oG
                          have PZ := Lib.hid hpz
                          have GG := Lib.hid (show w1.heap.size ≤ g5 ∧ w1.heap.size ≤ g' ∧ ¬ g5 = g' from ⟨fG g5 (by simp), Hgg.out.2.1, fun h => dG g' (by simp) (by simp [h])⟩)
                          have OB := Lib.hid (show (∀ x ∈ offs ++ enc32 (st + bl), x < 256) ∧ offs ++ enc32 (st + bl) = offU st qs kd true (k + 1) from ⟨fun x hx => by
                            rcases List.mem_append.1 hx with hx | hx
                            · exact Hofb.out.1 x hx
                            · exact enc32_byte hst10 x hx, by rw [offU_succ, ← Hbl.out, ← Hofb.out.2]⟩)
                          clear kG oG hpz own5 fG dG hown' hgrow hnil hat
                          go_meet
                          case rel => exact ⟨g5, _, ol + 4, offs ++ enc32 (st + bl), rfl, Lib.hid (by rw [List.length_append, show (enc32 (st + bl)).length = 4 from rfl]; omega), Lib.hid (by show (offs ++ enc32 (st + bl)).length = 4 * (k + 1); rw [List.length_append, show (enc32 (st + bl)).length = 4 from rfl]; omega), OB, KG, O5, OG, GG, PZ⟩
                      case rest =>
                        obtain ⟨g3, c3, ol3, offs3, rfl, Hol3, Hofl3, Hofb3, Hm3, Ho3, Hb3, Hg3, Hp3⟩ := hcut
                        have p1 : wc.drew.cell? ⟨z, 1, none⟩ = some (.slice UA ul uc) := by have := Hp3.out.cell 1; simpa using this
                        have p2 : wc.drew.cell? ⟨gk, k, none⟩ = some (.int .i64 (x : Int)) := Hm3.out.cell2 id ck1
                        have HmD := Lib.hid (Hm3.out.drew)
                        have HoD := Lib.hid (Own_drew Ho3.out)
                        have HbD := Lib.hid (Own_drew Hb3.out)
                        have Hbg : Hid (∀ b ∈ blkOf (.slice (some ⟨g3, 0, none⟩) ol3 c3), b ∉ blkOf (.slice (some ⟨g', 0, none⟩) bl c')) := Lib.hid (fun b hb h => by have := Hg3.out; simp at hb h; omega)
                        have hg39 := Hg3.out
                        go_wp2_with fail
                        have hzg : ¬ z = g' := fun h => by have := Hgl.out; omega
                        have hgk : ¬ gk = g' := fun h => by have := Hgkl.out; have := Hgg.out; omega
                        go_region_held3 (fun w' => w'.cell? ⟨z, 1, none⟩ = some (.slice UA ul uc) ∧ w'.cell? ⟨gk, k, none⟩ = some (.int .i64 (x : Int))) (first | assumption | exact ⟨p1, p2⟩ | go_keep) (first
                          | (go_at_call 24; ((with_reducible refine (Lb.out _ HmD.out).mono ?_); rintro ed w6 ⟨v6, rfl, o6, k6, f6⟩; obtain ⟨g6, c6, r6, rfl, _⟩ := o6.open Hbpos.out; have hS6 : w6.cell? ⟨z, 1, none⟩ = some (.slice UA ul uc) ∧ w6.cell? ⟨gk, k, none⟩ = some (.int .i64 (x : Int)) := ⟨k6.cell2 id p1, k6.cell2 id p2⟩))
                          | (refine step_append_lies _ (by rfl) _ _ _ (by rfl) 0 5 iU (.int .u8 0) 1 1 undU8s zz1 zz2 zz3 zz4 rfl (by omega) (.slice (some ⟨g', 0, none⟩) bl c') bl (u8s ((bodiesOf (qs.take k) (kd.take k)).flatten)) (by rfl) (HbD.out.kept k6 (fun _ _ => id)).toRow ⟨g6, 0, none⟩ BN.length (BN.length + c6) (u8s BN) (by rfl) (by simp) (own_news o6) (u8s_each _) (Hbpos.out) (by unfold maxLen; omega) (by omega) (Nat.zero_le _) _ rfl ?_; intro g7 c7 w7 hown' hgrow hat hlt7; have k7 : Kept (fun b => b = g') _ w7 := Kept.grown (Kept.refl _ _) hgrow (fun kk hkk _ => by simp [Value.ownBlock] at hkk; exact hkk.symm); have hS7 : w7.cell? ⟨z, 1, none⟩ = some (.slice UA ul uc) ∧ w7.cell? ⟨gk, k, none⟩ = some (.int .i64 (x : Int)) := ⟨k7.cell2 hzg (k6.cell2 id p1), k7.cell2 hgk (k6.cell2 id p2)⟩)
                          | fail)
                        have own8 := Own.ofRow hown'
                        rw [← u8s_append, ← Hbt2.out] at own8
                        have hg3 := Hg3.out
                        have hol3 := Ho3.out.lt g3 (by simp)
                        have zD : wc.heap.size ≤ w6.heap.size := by have := k6.size; exact this
                        have O8 := Lib.hid own8
                        have OO := Lib.hid ((HoD.out.kept k6 (fun _ _ => id)).kept k7 (fun b hb h => by simp at hb; omega))
                        have MM := Lib.hid (Kept.then (HmD.out.trans k6) k7 (fun b hb h => by omega))
                        have BL := Lib.hid (show bl + BN.length = ((bodiesOf (qs.take (k + 1)) (kd.take (k + 1))).flatten).length by rw [Hbt2.out, List.length_append, ← Hbl.out])
                        have GG := Lib.hid (show w1.heap.size ≤ g3 ∧ w1.heap.size ≤ g7 ∧ ¬ g3 = g7 from by
                          rcases hat with h | h
                          · simp [Value.ownBlock] at h; omega
                          · omega)
                        clear own8 hown' hgrow hat o6 hS6 hS7
                        go_wp2
                        go_roundw
                        case rel => exact ⟨k + 1, g3, c3, ol3, g7, c7, bl + BN.length, offs3, by go_num, rfl, rfl, by omega, Hol3, Hofl3, Hofb3, BL, MM, OO, O8, GG⟩
                        case measure => simp only [intOf]; omega
                  · obtain rfl : n = k := by omega
                    have eq1 : qs.take n = qs := by rw [← Hn.out, List.take_length]
                    have eq2 : kd.take n = kd := by rw [← Hkn.out, List.take_length]
                    rw [eq1, eq2] at Hbl Hbo
                    have Hbo2 := Hbo
                    have hofl : offs.length = offLen kd := by
                      rw [Hofl.out]
                      unfold offLen
                      rw [Hkn.out, Hrn.out, Hbb.out]
                      cases rn
                      · simp
                      · by_cases h4 : 4 ≤ n <;> simp [h4]
                    have Hofl2 := Lib.hid hofl
                    have Hofu := Lib.hid (show offs = offsOf qs kd from Hofb.out.2.trans (offU_all Hkn.out (by rw [Hbb.out, Hrn.out]) (by rw [Hst.out, HHD.out, Hhl'.out])))
                    have Hwh := Lib.hid (show wholeOf qs kd offs = HD ++ DD ++ offs ++ (bodiesOf qs kd).flatten by unfold wholeOf; rw [HHD.out, HDD.out])
                    generalize (bodiesOf qs kd).flatten = BB at *
                    have hlo := Ho.out.len
                    clear eq1 eq2 hofl
                    go_wp2_with (first
                      | (at_builtin; refine wpList_append_own_at _ rfl _ _ 27 rfl 0 5 iU (.int .u8 0) 1 1 undU8s zz1 zz2 zz3 zz4 rfl (by decide) _ ol (u8s (HD ++ DD ++ offs)) rfl Ho.out.toRow ⟨g', 0, none⟩ bl c' (u8s BB) rfl (by rw [Hbo.out.len]) (own_news Hbo.out) (u8s_each _) (by unfold maxLen; omega) (by omega) (Nat.zero_le _) ?_; intro v' w5 hown' hgrow hnil hat))
                    go_ret
                    have own5 := Own.ofRow hown'
                    rw [← u8s_append, ← Hwh.out] at own5
                    have hlen := own5.len
                    rw [Nat.mul_one, u8s_length] at hlen
                    obtain ⟨kG, fG⟩ := grow_mild (v := .slice (some ⟨g, 0, none⟩) ol c) Hm.out (Kept.refl _ _) hgrow (fun b hb => by have := Hgg.out; simp at hb; omega) hat
                    exact ⟨v', offs, rfl, by rw [hlen]; exact own5, Hofl2.out, Hofb.out.1, by rw [hlen]; omega, K1.out.trans kG, Hofu.out⟩
theorem bytes_any : BytesC := fun u s kv kd w hu hr hl hc hk hkk => (bytesX_any u s kv kd w hu hr hl hc hk hkk).mono (by rintro e w' ⟨v, offs, h1, h2, h3, h4, h5, h6, _⟩; exact ⟨v, offs, h1, h2, h3, h4, h5, h6⟩)
end Go.Proofs
