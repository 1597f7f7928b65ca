/-
  spec.Made: its walk (under way).
  spec.And: the numbers of both of two sets.
-/
import Derived.Test.YtplpoejknbhinaaGreatDoorJWh
import Derived.Test.YtplpoejknbhinaaGreatDoorJAnp
import Derived.Test.YtplpoejknbhinaaGreatDoorJAp2
import Derived.BigRegion
import Derived.StillTailTactics
import Derived.Deep.DeepCutAuto
import Derived.Deep.RegionHeld3
import Derived.Deep.QuietTactic
import Derived.BigQuiet
namespace Go.Proofs
open Go.RowKit Go.Roar
theorem cell_two_at (w : World) (x y : Value) (t : TypeId) (q : Nat) (hq : q = w.heap.size) : ∀ j u, [x, y][j]? = some u → (w.alloc (.cells #[x, y] t)).cell? ((⟨q, 0, none⟩ : Addr).add j) = some u := by
  subst hq; exact cell_two_new w x y t
theorem infoRange : (Tryz.prog.info? 36).map (fun i => (i.zero, i.size, i.bytes)) = some (some (.agg #[.int .i64 0, .int .i64 0]), 2, 16) := by kernel_rfl
theorem undRanges : Tryz.prog.underlying 25 = some (.slice 36) := by kernel_rfl

theorem undSet : Tryz.prog.underlying 26 = some (.slice 36) := by kernel_rfl

set_option maxRecDepth 100000 in
set_option maxHeartbeats 4000000 in
theorem made_any : MadeC := by
  intro u rs w hu hb hl
  obtain ⟨iR, u1, u2, u3, u4⟩ := info_parts infoRange
  obtain ⟨B, d, rfl, hu⟩ := hu
  have m0 : Mild w (w.alloc (.cells #[] 36)) := (Kept.refl _ _).alloc _
  have ow0 : Own (w.alloc (.cells #[] 36)) 2 36 (.slice (some ⟨w.heap.size, 0, none⟩) 0 0) 0 [] := ⟨rfl, .inr ⟨w.heap.size, 0, [], rfl, rfl, by unfold maxLen; omega, Blk.new w _ []⟩⟩
  have M0 := Lib.hid m0
  have W0 := Lib.hid ow0
  have Hu := Lib.hid hu
  have Hb := Lib.hid hb
  clear m0 ow0 hu hb
  generalize hln : rs.length = nr at *
  have Hl := Lib.hid hln
  clear hln
  go_enter Tryz.func10, Tryz.ntmps10
  go_wp2
  go_loopw [15, 3] (fun i v wr => ∃ k : Nat, i = .int .i64 k ∧ k ≤ nr ∧ Hid (Mild w wr) ∧ Hid (Own wr 2 36 v (keep (rs.take k)).length (rcs (keep (rs.take k)))) ∧ Hid (∀ b ∈ blkOf v, w.heap.size ≤ b)) (fun i _ _ => nr - (intOf i).toNat)
  case atStart => exact ⟨0, rfl, Nat.zero_le _, M0, W0, Lib.hid (by simp)⟩
  case round =>
    obtain ⟨k, rfl, hk, Hm, Ho, Hf⟩ := hrel
    by_cases hlt : k < nr
    · obtain ⟨r, hx⟩ : ∃ r, rs[k]? = some r := ⟨_, List.getElem?_eq_getElem (by rw [Hl.out]; exact hlt)⟩
      obtain ⟨g, rfl, a1, a2⟩ := Hu.out k r hx
      have ca := Hm.out.cell2 id a1
      have cb := Hm.out.cell2 id a2
      have i1 : (k : Int) < (nr : Int) := by omega
      have hkt := keep_take hx
      have hkl : (keep (rs.take k)).length ≤ 1000000 := by
        have h1 := List.length_filter_le (fun r : Nat × Nat => decide (r.1 ≤ r.2)) (rs.take k)
        unfold keep
        simp only [List.length_take] at h1
        omega
      obtain ⟨A, c, rfl⟩ := Ho.out.form
      have Hoa := Lib.hid ((Ho.out.alloc (.cells #[.int .i64 (r.1 : Int), .int .i64 (r.2 : Int)] 36)))
      have Hma := Lib.hid (Hm.out.alloc (.cells #[.int .i64 (r.1 : Int), .int .i64 (r.2 : Int)] 36))
      clear a1 a2 hx
      by_cases hc : r.1 ≤ r.2
      · rw [if_pos hc] at hkt
        have Hkt := Lib.hid hkt
        clear hkt
        generalize keep (rs.take k) = L at *
        have i2 : decide ((r.1 : Int) ≤ (r.2 : Int)) = true := by simp; omega
        generalize hml : L.length = ml at *
        have Hml := Lib.hid hml
        clear hml
        go_wp2_with (first
          | (at_builtin; refine wpList_append_own_at _ rfl _ _ 25 rfl 0 36 iR (.agg #[.int .i64 0, .int .i64 0]) 2 16 undRanges u1 u2 u3 u4 rfl (by decide) _ ml (rcs L) rfl (Hoa.out.alloc _).toRow ⟨wr.heap.size + 1, 0, none⟩ 1 1 [.int .i64 (r.1 : Int), .int .i64 (r.2 : Int)] rfl rfl (cell_two_at _ _ _ _ _ (by simp)) (by intro u hu; simp at hu; rcases hu with rfl | rfl <;> rfl) (by unfold maxLen; omega) (by omega) (Nat.zero_le _) ?_; intro v' w4 hown' hgrow hnil hat))
        have own4 := Own.ofRow hown'
        have hcs : rcs L ++ [.int .i64 (r.1 : Int), .int .i64 (r.2 : Int)] = rcs (keep (rs.take (k + 1))) := by rw [Hkt.out, rcs_append]; rfl
        have hln2 : (keep (rs.take (k + 1))).length = ml + 1 := by rw [Hkt.out, List.length_append, Hml.out]; rfl
        rw [hcs, ← hln2] at own4
        have kA : Mild wr ((wr.alloc (.cells #[.int .i64 (r.1 : Int), .int .i64 (r.2 : Int)] 36)).alloc (.cells #[.int .i64 (r.1 : Int), .int .i64 (r.2 : Int)] 36)) := ((Kept.refl _ _).alloc _).alloc _
        obtain ⟨kG, fG⟩ := grow_mild (v := .slice A ml c) Hm.out kA hgrow Hf.out hat
        go_roundw
        case rel => exact ⟨k + 1, by go_num, by omega, Lib.hid kG, Lib.hid own4, Lib.hid fG⟩
        case measure => simp only [intOf]; omega
      · rw [if_neg hc] at hkt
        have Hkt := Lib.hid hkt
        clear hkt
        have i2 : decide ((r.1 : Int) ≤ (r.2 : Int)) = false := by simp; omega
        generalize keep (rs.take k) = L at *
        generalize hml : L.length = ml at *
        have Hml := Lib.hid hml
        clear hml
        go_wp2
        go_roundw
        case rel => exact ⟨k + 1, by go_num, by omega, Hma, Lib.hid (by rw [Hkt.out, Hml.out]; exact Hoa.out), Hf⟩
        case measure => simp only [intOf]; omega
    · obtain rfl : k = nr := by omega
      have e : rs.take k = rs := by rw [← Hl.out, List.take_length]
      have ho := Ho.out
      rw [e] at ho
      have hkb : ∀ r ∈ keep rs, r.1 ≤ r.2 ∧ r.2 < 4294967296 := by
        intro r hr
        unfold keep at hr
        rw [List.mem_filter] at hr
        exact ⟨by simpa using hr.2, (Hb.out r hr.1).2⟩
      have hkn : (keep rs).length ≤ k := by unfold keep; rw [← Hl.out]; exact List.length_filter_le _ _
      have Hkb := Lib.hid hkb
      have Ho3 := Lib.hid ho
      clear ho hkb Ho e
      generalize hL0 : keep rs = L0 at *
      have HL0 := Lib.hid hL0
      clear hL0
      obtain ⟨A, c, rfl⟩ := Ho3.out.form
      generalize hnl : L0.length = n at *
      obtain ⟨C, hC⟩ : ∃ C, L0 = C := ⟨_, rfl⟩
      have HC := Lib.hid hC
      clear hC
      have Hnl := Lib.hid hnl
      clear hnl
      go_wp2_with fail
      go_loopw [31] (fun i wr => ∃ (k : Nat) (M : List (Nat × Nat)), i = .int .i64 k ∧ k ≤ n ∧ Hid (Mild w wr) ∧ Hid (Own wr 2 36 (.slice A n c) n (rcs M)) ∧ Hid (Srk k n C M)) (fun i _ => n - (intOf i).toNat)
      case atStart => exact ⟨0, L0, rfl, Nat.zero_le _, Hm, Ho3, Lib.hid ⟨by simp, Hkb.out, by rw [HC.out], Hnl.out⟩⟩
      case round =>
        obtain ⟨k, M, rfl, hk, Hm, Ho, HM⟩ := hrel
        by_cases hlt : k < n
        · obtain ⟨g, kk, rr, hv, _, _, _⟩ := Ho.out.open (by omega)
          obtain ⟨rfl, rfl⟩ : A = some ⟨g, 0, none⟩ ∧ c = n + kk := by simp at hv; exact hv
          have i1 : (k : Int) < (n : Int) := by omega
          have HD := Lib.hid (srtd_start HM.out hlt)
          clear hv HM
          go_wp2_with fail
          go_loopw [7] (fun y wx => ∃ (j : Nat) (M : List (Nat × Nat)), y = .int .i64 j ∧ Hid (Mild w wx) ∧ Hid (Own wx 2 36 (.slice (some ⟨g, 0, none⟩) n (n + kk)) n (rcs M)) ∧ Hid (Srtd k n C M j)) (fun y _ => (intOf y).toNat)
          case atStart => exact ⟨k, M, rfl, Hm, Ho, HD⟩
          case round =>
            obtain ⟨j, M, rfl, Hm2, Ho2, HD2⟩ := hrel
            have hjk := srtd_lt HD2.out
            rcases j with _ | j
            · have e0 : ((0 : Nat) : Int) = 0 := rfl
              rw [e0]
              have HS := Lib.hid (srtd_end0 HD2.out)
              go_wp2_with fail
              go_quiet (fail)
              go_wp2_with fail
              go_roundw
              case rel => exact ⟨k + 1, M, by go_num, by omega, Lib.hid (Hm2.out.drewN _), Lib.hid (Ho2.out.kept ((Kept.refl _ _).drewN _) (fun _ _ => id)), HS⟩
              case measure => simp only [intOf]; omega
            · obtain ⟨p, hp⟩ : ∃ p, M[j]? = some p := ⟨_, List.getElem?_eq_getElem (by omega)⟩
              obtain ⟨x, hx⟩ : ∃ x, M[j + 1]? = some x := ⟨_, List.getElem?_eq_getElem (by omega)⟩
              obtain ⟨g2, kk2, rr2, hv2, _, _, hb2⟩ := Ho2.out.open (by omega)
              obtain ⟨rfl, rfl⟩ : g = g2 ∧ kk = kk2 := by simp at hv2; omega
              have p1 := (hb2.cell (j * 2)).trans (by rw [List.getElem?_append_left (List.getElem?_eq_some_iff.1 (rcs_at hp).1).1, (rcs_at hp).1])
              have p2 := (hb2.cell (j * 2 + 1)).trans (by rw [List.getElem?_append_left (List.getElem?_eq_some_iff.1 (rcs_at hp).2).1, (rcs_at hp).2])
              have x1 := (hb2.cell ((j + 1) * 2)).trans (by rw [List.getElem?_append_left (List.getElem?_eq_some_iff.1 (rcs_at hx).1).1, (rcs_at hx).1])
              have x2 := (hb2.cell ((j + 1) * 2 + 1)).trans (by rw [List.getElem?_append_left (List.getElem?_eq_some_iff.1 (rcs_at hx).2).1, (rcs_at hx).2])
              obtain ⟨m, hm⟩ : ∃ m, m = j + 1 := ⟨_, rfl⟩
              rw [← hm] at x1 x2 hx HD2
              rw [← hm]
              have j0 : 0 < m := by omega
              have j1 : (m : Int) < (n : Int) := by omega
              have j2 : (m : Int) - 1 = (j : Int) := by omega
              have j3 : (j : Int) < (n : Int) := by omega
              have Hmj := Lib.hid hm
              clear hv2
              by_cases hlt2 : x.1 < p.1
              · have HS := Lib.hid (srtd_swap (hm ▸ HD2.out) hp (hm ▸ hx) hlt2)
                clear hm
                have i2 : decide ((x.1 : Int) < (p.1 : Int)) = true := by simp; omega
                go_wp2_with fail
                go_quiet (fail)
                go_wp2_with fail
                have hbW : Blk (wr.drewN nq) g 36 (rcs M ++ rr2) := hb2.drewN _
                have kW : Mild w (wr.drewN nq) := Hm2.out.drewN _
                have oW : Own (wr.drewN nq) 2 36 (.slice (some ⟨g, 0, none⟩) n (n + kk)) n (rcs M) := Ho2.out.kept ((Kept.refl _ _).drewN _) (fun _ _ => id)
                clear p1 p2 x1 x2 hb2
                generalize wr.drewN nq = W at hbW kW oW ⊢
                have p1 := (hbW.cell (j * 2)).trans (by rw [List.getElem?_append_left (List.getElem?_eq_some_iff.1 (rcs_at hp).1).1, (rcs_at hp).1])
                have p2 := (hbW.cell (j * 2 + 1)).trans (by rw [List.getElem?_append_left (List.getElem?_eq_some_iff.1 (rcs_at hp).2).1, (rcs_at hp).2])
                have x1 := (hbW.cell (m * 2)).trans (by rw [List.getElem?_append_left (List.getElem?_eq_some_iff.1 (rcs_at hx).1).1, (rcs_at hx).1])
                have x2 := (hbW.cell (m * 2 + 1)).trans (by rw [List.getElem?_append_left (List.getElem?_eq_some_iff.1 (rcs_at hx).2).1, (rcs_at hx).2])
                have f1 := hbW.free (j * 2)
                have f2 := hbW.free (j * 2 + 1)
                have f3 := hbW.free (m * 2)
                have f4 := hbW.free (m * 2 + 1)
                have n1 : ¬ j * 2 = m * 2 := by have := Hmj.out; omega
                have n2 : ¬ j * 2 = m * 2 + 1 := by omega
                have n3 : ¬ j * 2 + 1 = m * 2 := by omega
                have n4 : ¬ j * 2 + 1 = m * 2 + 1 := by have := Hmj.out; omega
                have KW := Lib.hid kW
                have OW := Lib.hid oW
                clear hbW kW oW hp hx
                go_region
                go_wp2_with fail
                have hgw : w.heap.size ≤ g := Hf.out g (by simp)
                have hlr : (rcs M).length = n * 2 := by rw [rcs_length, hjk.2.2]
                have hng : ∀ (W' : World) (i : Nat) (u : Value), Mild w W' → Mild w (W'.setCell ⟨g, i, none⟩ u) := fun W' i u h => Kept.setCell (p := ⟨g, i, none⟩) h (fun h => absurd h (by show ¬ g < _; omega)) u
                have o1 := Own.setCell OW.out (m * 2) (.int .i64 (p.1 : Int)) (by omega)
                have o2 := Own.setCell o1 (m * 2 + 1) (.int .i64 (p.2 : Int)) (by rw [List.length_set]; omega)
                rw [rcs_set] at o2
                have o3 := Own.setCell o2 (j * 2) (.int .i64 (x.1 : Int)) (by rw [rcs_length, List.length_set]; omega)
                have o4 := Own.setCell o3 (j * 2 + 1) (.int .i64 (x.2 : Int)) (by rw [List.length_set, rcs_length, List.length_set]; omega)
                rw [rcs_set] at o4
                have O4 := Lib.hid (Own_drew o4)
                have K4 := Lib.hid ((hng _ (j * 2 + 1) (.int .i64 (x.2 : Int)) (hng _ (j * 2) (.int .i64 (x.1 : Int)) (hng _ (m * 2 + 1) (.int .i64 (p.2 : Int)) (hng _ (m * 2) (.int .i64 (p.1 : Int)) KW.out)))).drew)
                rw [← Hmj.out] at HS
                clear o1 o2 o3 o4 hng
                go_roundw
                case rel => exact ⟨j, _, rfl, K4, O4, HS⟩
                case measure => have := Hmj.out; simp only [intOf]; omega
              · have HS := Lib.hid (srtd_endp (hm ▸ HD2.out) hp (hm ▸ hx) (by omega))
                clear hm
                have i2 : decide ((x.1 : Int) < (p.1 : Int)) = false := by simp; omega
                clear hp hx
                go_wp2_with fail
                go_quiet (fail)
                go_wp2_with fail
                go_roundw
                case rel => exact ⟨k + 1, M, by go_num, by omega, Lib.hid (Hm2.out.drewN _), Lib.hid (Ho2.out.kept ((Kept.refl _ _).drewN _) (fun _ _ => id)), HS⟩
                case measure => simp only [intOf]; omega
        · obtain rfl : k = n := by omega
          obtain ⟨y1, y2, y3, y4⟩ := HM.out
          have eM : M.take k = M := by rw [← y4, List.take_length]
          rw [eM] at y1
          have hrv : RV wr (.slice A k c) M := RV.own (by rw [y4]; exact Ho.out)
          obtain ⟨A', c', he, hrv⟩ := hrv
          obtain ⟨rfl, rfl⟩ : A = A' ∧ c = c' := by simp at he; exact ⟨he.1, he.2.2⟩
          have m0 : Mild wr (wr.alloc (.cells #[] 36)) := (Kept.refl _ _).alloc _
          have ow0 : Own (wr.alloc (.cells #[] 36)) 2 36 (.slice (some ⟨wr.heap.size, 0, none⟩) 0 0) 0 [] := ⟨rfl, .inr ⟨wr.heap.size, 0, [], rfl, rfl, by unfold maxLen; omega, Blk.new wr _ []⟩⟩
          have M0 := Lib.hid m0
          have W0 := Lib.hid ow0
          have Hrv := Lib.hid hrv
          have Hy2 := Lib.hid y2
          have Hmg := Lib.hid (merge_ok (n := 4294967296) M [] (RgOK.nil _) y2 y1 (by simp))
          have Hmm := Lib.hid (merge_mem (n := 4294967296) M [] (RgOK.nil _) y2 y1 (by simp))
          have Hsw := Lib.hid Hm.out.size
          have Hy3 := Lib.hid y3
          have Hy4 := Lib.hid y4
          have Hlen := Lib.hid (show ∀ i, ((M.take i).foldl mergeStep []).length ≤ i from fun i => by
            have := (merge_ok (n := 4294967296) (M.take i) [] (RgOK.nil _) (fun r hr => y2 r (List.mem_of_mem_take hr)) (y1.sublist (List.take_sublist _ _)) (by simp)).2.2
            simp only [List.length_nil, List.length_take] at this; omega)
          have Hbd := Lib.hid (show ∀ i, ∀ r ∈ (M.take i).foldl mergeStep [], r.2 < 4294967296 from fun i r hr => 
            ((merge_ok (n := 4294967296) (M.take i) [] (RgOK.nil _) (fun r hr => y2 r (List.mem_of_mem_take hr)) (y1.sublist (List.take_sublist _ _)) (by simp)).1.1 r hr).2)
          clear he y1 y2 y3 y4 hrv m0 ow0 eM
          go_wp2_with fail
          go_loopw [73, 8] (fun i v wx => ∃ q : Nat, i = .int .i64 q ∧ q ≤ k ∧ Hid (Mild wr wx) ∧ Hid (Own wx 2 36 v ((M.take q).foldl mergeStep []).length (rcs ((M.take q).foldl mergeStep []))) ∧ Hid (∀ b ∈ blkOf v, wr.heap.size ≤ b)) (fun i _ _ => k - (intOf i).toNat)
          case atStart => exact ⟨0, rfl, Nat.zero_le _, M0, W0, Lib.hid (by simp)⟩
          case round =>
            obtain ⟨q, rfl, hq, Hm5, Ho5, Hf5⟩ := hrel
            by_cases hlt : q < k
            · obtain ⟨r, hx⟩ : ∃ r, M[q]? = some r := ⟨_, List.getElem?_eq_getElem (by rw [Hy4.out]; exact hlt)⟩
              obtain ⟨g, rfl, a1, a2⟩ := Hrv.out q r hx
              obtain ⟨r1, r2⟩ := Hy2.out r (List.mem_of_getElem? hx)
              have ca := Hm5.out.cell2 id a1
              have cb := Hm5.out.cell2 id a2
              have i1 : (q : Int) < (k : Int) := by omega
              have Hmt := Lib.hid (merge_take hx)
              have hle := Hlen.out q
              have hbd := Hbd.out q
              have hnb := Blk.new wr 36 [.int .i64 (r.1 : Int), .int .i64 (r.2 : Int)]
              generalize (M.take q).foldl mergeStep [] = out at *
              obtain ⟨A2, c2, rfl⟩ := Ho5.out.form
              have HoA := Lib.hid ((Ho5.out.alloc (.cells #[.int .i64 (r.1 : Int), .int .i64 (r.2 : Int)] 36)))
              have HmA := Lib.hid ((Hm5.out.alloc (.cells #[.int .i64 (r.1 : Int), .int .i64 (r.2 : Int)] 36)))
              have Hlo := Lib.hid Ho5.out.lt
              clear a1 a2 hx Ho5 Hm5
              rcases List.eq_nil_or_concat out with rfl | ⟨m, ⟨a, b⟩, rfl⟩
              · simp only [List.length_nil] at *
                go_wp2_with fail
                go_quiet (fail)
                have hB := hnb.drewN nq
                have HmW := Lib.hid (HmA.out.drewN nq)
                have HoW := Lib.hid (HoA.out.kept ((Kept.refl _ _).drewN nq) (fun _ _ => id))
                clear HmA HoA hnb
                generalize (wr.alloc (Obj.cells #[Value.int IntKind.i64 (r.1 : Int), Value.int IntKind.i64 (r.2 : Int)] 36)).drewN nq = W at hB HmW HoW ⊢
                have g0 := hB.cell 0
                have g1 := hB.cell 1
                simp only [List.getElem?_cons_zero, List.getElem?_cons_succ] at g0 g1
                generalize wr.heap.size = z at g0 g1 hB ⊢
                go_wp2_with (first
                  | (at_builtin; refine wpList_append_own_at _ rfl _ _ 26 rfl 0 36 iR (.agg #[.int .i64 0, .int .i64 0]) 2 16 undSet u1 u2 u3 u4 rfl (by decide) _ 0 (rcs []) rfl (HoW.out.alloc _).toRow ⟨W.heap.size, 0, none⟩ 1 1 [.int .i64 (r.1 : Int), .int .i64 (r.2 : Int)] rfl rfl (cell_two_new _ _ _ _) (by intro u hu; simp at hu; rcases hu with rfl | rfl <;> rfl) (by unfold maxLen; omega) (by omega) (Nat.zero_le _) ?_; intro v' w4 hown' hgrow hnil hat))
                have own4 := Own.ofRow hown'
                have kA : Mild W (W.alloc (.cells #[.int .i64 (r.1 : Int), .int .i64 (r.2 : Int)] 36)) := (Kept.refl _ _).alloc _
                obtain ⟨kG, fG⟩ := grow_mild (v := .slice A2 0 c2) HmW.out kA hgrow Hf5.out hat
                rw [show rcs [] ++ [Value.int IntKind.i64 (r.1 : Int), Value.int IntKind.i64 (r.2 : Int)] = rcs (mergeStep [] r) from rfl, ← Hmt.out, show 0 + 1 = ((M.take (q + 1)).foldl mergeStep []).length by rw [Hmt.out]; rfl] at own4
                have KG := Lib.hid kG
                have FG := Lib.hid fG
                have OG := Lib.hid own4
                clear kG fG own4 hown' hgrow hat hnil kA
                go_roundw
                case rel => exact ⟨q + 1, by go_num, by omega, KG, OG, FG⟩
                case measure => simp only [intOf]; omega
              · rw [List.concat_eq_append] at *
                have hlo : (m ++ [(a, b)]).length = m.length + 1 := by simp
                have hab := hbd (a, b) (by simp)
                obtain ⟨ol, hol⟩ : ∃ ol, ol = m.length + 1 := ⟨_, rfl⟩
                rw [hlo, ← hol] at HoA hle Hf5 Hlo
                rw [hlo, ← hol]
                obtain ⟨g2, k2, rr2, hv2, _, _, hb2⟩ := HoA.out.open (by omega)
                obtain ⟨rfl, rfl⟩ : A2 = some ⟨g2, 0, none⟩ ∧ c2 = ol + k2 := by simp at hv2; exact hv2
                have hcs := (rcs_at (rs := m ++ [(a, b)]) (i := m.length) (r := (a, b)) (by simp)).2
                have c0 := (hb2.cell (m.length * 2 + 1)).trans (by rw [List.getElem?_append_left (List.getElem?_eq_some_iff.1 hcs).1, hcs])
                have cf := hb2.free (m.length * 2 + 1)
                have hsetc : (rcs (m ++ [(a, b)])).set (m.length * 2 + 1) (.int .i64 (max b r.2 : Nat)) = rcs (m ++ [(a, max b r.2)]) := by
                  rw [rcs_append, rcs_append, List.set_append_right _ _ (by rw [rcs_length]; omega), rcs_length, show m.length * 2 + 1 - m.length * 2 = 1 by omega]; rfl
                have hsl : m.length * 2 + 1 < (rcs (m ++ [(a, b)])).length := by rw [rcs_length, hlo]; omega
                have Hsc := Lib.hid hsetc
                have Hsl := Lib.hid hsl
                have Hmn := Lib.hid (mergeStep_new m a b r)
                have Hmo := Lib.hid (mergeStep_on m a b r)
                have Hlm := Lib.hid (show ∀ y, (m ++ [(a, y)]).length = ol from fun y => by simp [hol])
                have Hg2 := Lib.hid (Hf5.out g2 (by simp))
                have Hgz := Lib.hid (Hlo.out g2 (by simp))
                generalize m.length = ml at *
                have Hol := Lib.hid hol
                have j0 : 0 < ol := by omega
                have j1 : (ol : Int) - 1 = (ml : Int) := by omega
                have j2 : (ml : Int) < (ol : Int) := by omega
                clear hv2 hsetc hsl hcs hlo hol hb2
                by_cases hc : r.1 ≤ b + 1
                · have i2 : decide ((r.1 : Int) ≤ (b : Int) + 1) = true := by simp; omega
                  go_wp2_with fail
                  go_quiet (fail)
                  go_wp2_with fail
                  have hB := hnb.drewN nq
                  have HmW := Lib.hid (HmA.out.drewN nq)
                  have HoW := Lib.hid (HoA.out.kept ((Kept.refl _ _).drewN nq) (fun _ _ => id))
                  have c1 : ((wr.alloc (Obj.cells #[Value.int IntKind.i64 (r.1 : Int), Value.int IntKind.i64 (r.2 : Int)] 36)).drewN nq).cell? ⟨g2, ml * 2 + 1, none⟩ = some (.int .i64 (b : Int)) := c0
                  have c2 : ((wr.alloc (Obj.cells #[Value.int IntKind.i64 (r.1 : Int), Value.int IntKind.i64 (r.2 : Int)] 36)).drewN nq).frozen? ⟨g2, ml * 2 + 1, none⟩ = false := cf
                  clear HmA HoA hnb c0 cf
                  generalize (wr.alloc (Obj.cells #[Value.int IntKind.i64 (r.1 : Int), Value.int IntKind.i64 (r.2 : Int)] 36)).drewN nq = W at hB HmW HoW c1 c2 ⊢
                  have g1 := hB.cell 1
                  simp only [List.getElem?_cons_zero, List.getElem?_cons_succ] at g1
                  generalize wr.heap.size = z at g1 hB ⊢
                  have d1 : W.drew.cell? ⟨z, 1, none⟩ = some (.int .i64 (r.2 : Int)) := g1
                  have d2 : W.drew.cell? ⟨g2, ml * 2 + 1, none⟩ = some (.int .i64 (b : Int)) := c1
                  have d3 : W.drew.frozen? ⟨g2, ml * 2 + 1, none⟩ = false := c2
                  have e1 : IntKind.i64.wrap ((ol : Int) - 1) = (ml : Int) := by rw [j1]; exact IntWalk.i64_in _ (by omega)
                  have e2 : IntKind.i64.wrap (ml : Int) = (ml : Int) := IntWalk.i64_in _ (by omega)
                  have e3 : (0 : Int) ≤ (ml : Int) := by omega
                  refine wp_region_tail 14 (by kernel_rfl) (by decide +kernel) ?_
                  simp only [List.take_succ_cons, List.take_zero, List.drop_succ_cons, List.drop_zero]
                  repeat still_step
                  refine wpStill_nil ?_
                  show wpList _ _ _ _ _ _
                  go_wp2_with fail
                  have hmax : (if b < r.2 then (r.2 : Int) else (b : Int)) = ((max b r.2 : Nat) : Int) := by split <;> omega
                  have o5 := Own.setCell HoW.out (ml * 2 + 1) (.int .i64 ((max b r.2 : Nat) : Int)) Hsl.out
                  rw [Hsc.out] at o5
                  have hmr : (M.take (q + 1)).foldl mergeStep [] = m ++ [(a, max b r.2)] := by rw [Hmt.out, Hmo.out hc]
                  have O5 := Lib.hid (Own_drew o5)
                  have K5 := Lib.hid ((Kept.setCell (p := ⟨g2, ml * 2 + 1, none⟩) HmW.out (fun h => absurd h (by have := Hg2.out; show ¬ g2 < _; omega)) (.int .i64 ((max b r.2 : Nat) : Int))).drew)
                  rw [hmax]
                  clear o5 hmax
                  go_roundw
                  case rel => exact ⟨q + 1, by go_num, by omega, K5, by rw [hmr, Hlm.out]; exact O5, Hf5⟩
                  case measure => simp only [intOf]; omega
                · have i2 : decide ((r.1 : Int) ≤ (b : Int) + 1) = false := by simp; omega
                  go_wp2_with fail
                  go_quiet (fail)
                  have hB := hnb.drewN nq
                  have HmW := Lib.hid (HmA.out.drewN nq)
                  have HoW := Lib.hid (HoA.out.kept ((Kept.refl _ _).drewN nq) (fun _ _ => id))
                  clear HmA HoA hnb
                  generalize (wr.alloc (Obj.cells #[Value.int IntKind.i64 (r.1 : Int), Value.int IntKind.i64 (r.2 : Int)] 36)).drewN nq = W at hB HmW HoW ⊢
                  have g0 := hB.cell 0
                  have g1 := hB.cell 1
                  simp only [List.getElem?_cons_zero, List.getElem?_cons_succ] at g0 g1
                  generalize wr.heap.size = z at g0 g1 hB ⊢
                  go_wp2_with (first
                    | (at_builtin; refine wpList_append_own_at _ rfl _ _ 26 rfl 0 36 iR (.agg #[.int .i64 0, .int .i64 0]) 2 16 undSet u1 u2 u3 u4 rfl (by decide) _ ol (rcs (m ++ [(a, b)])) rfl (HoW.out.alloc _).toRow ⟨W.heap.size, 0, none⟩ 1 1 [.int .i64 (r.1 : Int), .int .i64 (r.2 : Int)] rfl rfl (cell_two_new _ _ _ _) (by intro u hu; simp at hu; rcases hu with rfl | rfl <;> rfl) (by unfold maxLen; omega) (by omega) (Nat.zero_le _) ?_; intro v' w4 hown' hgrow hnil hat))
                  have own4 := Own.ofRow hown'
                  have kA : Mild W (W.alloc (.cells #[.int .i64 (r.1 : Int), .int .i64 (r.2 : Int)] 36)) := (Kept.refl _ _).alloc _
                  obtain ⟨kG, fG⟩ := grow_mild (v := .slice (some ⟨g2, 0, none⟩) ol (ol + k2)) HmW.out kA hgrow Hf5.out hat
                  rw [show rcs (m ++ [(a, b)]) ++ [Value.int IntKind.i64 (r.1 : Int), Value.int IntKind.i64 (r.2 : Int)] = rcs (mergeStep (m ++ [(a, b)]) r) by rw [Hmn.out hc, rcs_append (m ++ [(a, b)])]; rfl, ← Hmt.out, show ol + 1 = ((M.take (q + 1)).foldl mergeStep []).length by rw [Hmt.out, Hmn.out hc, List.length_append, Hlm.out b]; rfl] at own4
                  have KG := Lib.hid kG
                  have FG := Lib.hid fG
                  have OG := Lib.hid own4
                  clear kG fG own4 hown' hgrow hat hnil kA
                  go_roundw
                  case rel => exact ⟨q + 1, by go_num, by omega, KG, OG, FG⟩
                  case measure => simp only [intOf]; omega
            · obtain rfl : q = k := by omega
              have e2 : M.take q = M := by rw [← Hy4.out, List.take_length]
              have ho5 := Ho5.out
              rw [e2] at ho5
              obtain ⟨z1, z2, z3⟩ := Hmg.out
              rw [card_perm Hy3.out] at z2
              simp only [List.length_nil, Hy4.out] at z3
              have hks := Hm.out.trans Hm5.out
              have hsw := Hsw.out
              have hz2 : rgCard (M.foldl mergeStep []) ≤ rgCard C := by simpa [rgCard] using z2
              go_wp2_with fail
              go_ret
              exact ⟨_, _, rfl, ho5, z1, by rw [HL0.out, HC.out]; exact hz2, by omega, fun x => by rw [rgNums_mem (fun r hr => (z1.1 r hr).1)]; show inR _ x ↔ _; rw [Hmm.out x, inR_perm Hy3.out, ← HC.out, ← HL0.out, inR_keep]; simp [inR], hks, fun b hb => by have := Hf5.out b hb; omega⟩
end Go.Proofs

namespace Go.Roar
open Go.RowKit Go.Proofs
theorem rcs_oneA (rs : List (Nat × Nat)) : ∀ u ∈ rcs rs, u.oneCell' = true := by
  intro u hu
  unfold rcs at hu
  obtain ⟨r, _, hu⟩ := List.mem_flatMap.1 hu
  simp at hu
  rcases hu with rfl | rfl <;> rfl
theorem Own.form2 {w : World} {size : Nat} {e : TypeId} {v : Value} {n : Nat} {xs : List Value} (h : Own w size e v n xs) : ∃ A c, v = .slice A n c := Own.form h
end Go.Roar
namespace Go.Proofs
open Go.RowKit Go.Roar
theorem cell_two_pl (w : World) (x y : Value) (t : TypeId) (n : Nat) (hn : n = w.heap.size) : ∀ j u, [x, y][j]? = some u → (w.alloc (.cells #[x, y] t)).cell? ((⟨n, 0, none⟩ : Addr).add j) = some u := by
  subst hn; exact cell_two_new w x y t
theorem infoRangeA : (Tryz.prog.info? 36).map (fun i => (i.zero, i.size, i.bytes)) = some (some (.agg #[.int .i64 0, .int .i64 0]), 2, 16) := by kernel_rfl
theorem undRangesA : Tryz.prog.underlying 25 = some (.slice 36) := by kernel_rfl

set_option maxRecDepth 100000 in
set_option maxHeartbeats 4000000 in
theorem and_any (ua ub : Value) (a b : List (Nat × Nat)) (w : World) (ha : RV w ua a) (hb : RV w ub b) (hra : ∀ r ∈ a, r.1 < 4294967296 ∧ r.2 < 4294967296) (hrb : ∀ r ∈ b, r.1 < 4294967296 ∧ r.2 < 4294967296) (hla : a.length ≤ 1000000) (hlb : b.length ≤ 1000000) (hl : a.length * b.length ≤ 1000000) :
    Calls Tryz.prog 8 #[ua, ub] w fun e w' => ∃ v s, e = .returned v ∧ Own w' 2 36 v s.length (rcs s) ∧ RgOK 4294967296 s ∧ s.length ≤ a.length * b.length ∧ (∀ x, x ∈ rgNums s ↔ inR a x ∧ inR b x) ∧ Mild w w' := by
  obtain ⟨iR, zz1, zz2, zz3, zz4⟩ := info_parts infoRangeA
  have HM := Lib.hid (fun (u : Value) (rs : List (Nat × Nat)) (W : World) (h1 : RV W u rs) (h2 : ∀ r ∈ rs, r.1 < 4294967296 ∧ r.2 < 4294967296) (h3 : rs.length ≤ 1000000) => made_any u rs W h1 h2 h3)
  have HL := Lib.hid hl
  have HRA := Lib.hid (andL_lt hra hrb)
  obtain ⟨na, hna⟩ : ∃ na, na = a.length := ⟨_, rfl⟩
  obtain ⟨nb, hnb⟩ : ∃ nb, nb = b.length := ⟨_, rfl⟩
  obtain ⟨A, c, rfl, ha⟩ := ha
  obtain ⟨B, d, rfl, hb⟩ := hb
  rw [← hna] at hla
  rw [← hnb] at hlb
  rw [← hna, ← hnb]
  have Ha := Lib.hid ha
  have Hb := Lib.hid hb
  have Hna := Lib.hid hna
  have Hnb := Lib.hid hnb
  have Hra := Lib.hid hra
  have Hrb := Lib.hid hrb
  have m0 : Mild w (w.alloc (.cells #[] 36)) := (Kept.refl _ _).alloc _
  have ow0 : Own (w.alloc (.cells #[] 36)) 2 36 (.slice (some ⟨w.heap.size, 0, none⟩) 0 0) 0 [] := ⟨rfl, .inr ⟨w.heap.size, 0, [], rfl, rfl, Nat.zero_le _, Blk.new w _ []⟩⟩
  have M0 := Lib.hid m0
  have W0 := Lib.hid ow0
  clear m0 ow0 ha hb hna hnb hra hrb hl
  go_enter Tryz.func8, Tryz.ntmps8
  go_wp2
  go_loopw [13, 5] (fun i v wr => ∃ k : Nat, i = .int .i64 k ∧ k ≤ na ∧ Hid (Mild w wr) ∧ Hid (Own wr 2 36 v (andL (a.take k) b).length (rcs (andL (a.take k) b))) ∧ Hid (∀ z ∈ blkOf v, w.heap.size ≤ z)) (fun i _ _ => na - (intOf i).toNat)
  case atStart => exact ⟨0, rfl, Nat.zero_le _, M0, W0, Lib.hid (by intro z hz; simp at hz; omega)⟩
  case round =>
    obtain ⟨k, rfl, hk, Hm, Ho, Hf⟩ := hrel
    obtain ⟨VA, vc, rfl⟩ := Own.form2 Ho.out
    by_cases hlt : k < na
    · obtain ⟨x, hx⟩ : ∃ x, a[k]? = some x := ⟨_, List.getElem?_eq_getElem (by rw [← Hna.out]; exact hlt)⟩
      obtain ⟨g, rfl, a1, a2⟩ := Ha.out k x hx
      have hxb := Hra.out x (List.mem_of_getElem? hx)
      have ca := Hm.out.cell2 id a1
      have cb := Hm.out.cell2 id a2
      have i1 : (k : Int) < (na : Int) := by omega
      have HX := Lib.hid hx
      have hst := andL_step (b := b) hx
      have HST := Lib.hid hst
      have hno : wr.heap.size ∉ blkOf (.slice VA (andL (a.take k) b).length vc) := fun h => by have := Ho.out.lt _ h; omega
      have hlk : (andL (a.take k) b).length + nb ≤ 1000000 := by
        have h1 := HL.out
        rw [andL_length, List.length_take, ← Hna.out, ← Hnb.out, Nat.min_eq_left hk]
        rw [← Hna.out, ← Hnb.out] at h1
        have h2 : (k + 1) * nb ≤ na * nb := Nat.mul_le_mul_right nb hlt
        rw [Nat.add_mul, Nat.one_mul] at h2
        omega
      have HNO := Lib.hid hno
      have nbk := Blk.new wr 36 [.int .i64 (x.1 : Int), .int .i64 (x.2 : Int)]
      have HBX := Lib.hid nbk
      have Hoa := Lib.hid (Ho.out.alloc (.cells #[.int .i64 (x.1 : Int), .int .i64 (x.2 : Int)] 36))
      have Hma := Lib.hid (Hm.out.alloc (.cells #[.int .i64 (x.1 : Int), .int .i64 (x.2 : Int)] 36))
      clear a1 a2 hx hst hno nbk
      generalize andL (a.take k) b = L0 at *
      go_wp2_with fail
      generalize hXB : wr.heap.size = XB at *
      go_loopw [19, 5] (fun j v wx => ∃ jj : Nat, j = .int .i64 jj ∧ jj ≤ nb ∧ Hid (Mild w wx) ∧ Hid (Own wx 2 36 v (L0 ++ (b.take jj).map (andR x)).length (rcs (L0 ++ (b.take jj).map (andR x)))) ∧ Hid (∀ z ∈ blkOf v, w.heap.size ≤ z) ∧ Hid (Blk wx XB 36 [.int .i64 (x.1 : Int), .int .i64 (x.2 : Int)]) ∧ Hid (XB ∉ blkOf v)) (fun j _ _ => nb - (intOf j).toNat)
      case atStart => exact ⟨0, rfl, Nat.zero_le _, Hma, Lib.hid (by simpa using Hoa.out), Hf, HBX, HNO⟩
      case round =>
        obtain ⟨jj, rfl, hjj, Hm2, Ho2, Hf2, Hb2, Hn2⟩ := hrel
        obtain ⟨VB, vd, rfl⟩ := Own.form2 Ho2.out
        by_cases hlt2 : jj < nb
        · obtain ⟨y, hy⟩ : ∃ y, b[jj]? = some y := ⟨_, List.getElem?_eq_getElem (by rw [← Hnb.out]; exact hlt2)⟩
          obtain ⟨g2, rfl, c1, c2⟩ := Hb.out jj y hy
          have hyb := Hrb.out y (List.mem_of_getElem? hy)
          have da := Hm2.out.cell2 id c1
          have db := Hm2.out.cell2 id c2
          have i2 : (jj : Int) < (nb : Int) := by omega
          have hms := map_step (x := x) hy
          have HMS := Lib.hid (show rcs (L0 ++ (b.take (jj + 1)).map (andR x)) = rcs (L0 ++ (b.take jj).map (andR x)) ++ rcs [andR x y] by rw [hms, ← List.append_assoc, rcs_append])
          have HML := Lib.hid (show (L0 ++ (b.take (jj + 1)).map (andR x)).length = (L0 ++ (b.take jj).map (andR x)).length + 1 by rw [hms, ← List.append_assoc, List.length_append]; rfl)
          have hml : (L0 ++ (b.take jj).map (andR x)).length ≤ 1000000 := by rw [List.length_append, List.length_map, List.length_take]; omega
          have kY : Mild wr (wr.alloc (.cells #[.int .i64 (y.1 : Int), .int .i64 (y.2 : Int)] 36)) := (Kept.refl _ _).alloc _
          have bY := Hb2.out.kept kY id
          have e0 := bY.cell 0
          have e1 := bY.cell 1
          have nY := Blk.new wr 36 [.int .i64 (y.1 : Int), .int .i64 (y.2 : Int)]
          have f0 := nY.cell 0
          have f1 := nY.cell 1
          simp only [List.getElem?_cons_zero, List.getElem?_cons_succ] at e0 e1 f0 f1
          have HKY := Lib.hid kY
          clear c1 c2 hy hms bY nY kY
          generalize hml2 : (L0 ++ (b.take jj).map (andR x)).length = ml at *
          generalize rcs (L0 ++ (b.take jj).map (andR x)) = ML at *
          by_cases h1 : x.1 < y.1
          · have j1 : (x.1 : Int) < (y.1 : Int) := by omega
            by_cases h2 : y.2 < x.2
            · have j2 : (y.2 : Int) < (x.2 : Int) := by omega
              have HR := Lib.hid (show rcs [andR x y] = [.int .i64 (y.1 : Int), .int .i64 (y.2 : Int)] by unfold andR; rw [show max x.1 y.1 = y.1 by omega, show min x.2 y.2 = y.2 by omega]; rfl)
              go_wp2_with (first
                | (at_builtin; refine append_own_kept (S := fun _ => False) w rfl _ _ 25 25 rfl 36 iR (.agg #[.int .i64 0, .int .i64 0]) 2 16 undRangesA undRangesA zz1 zz2 zz3 zz4 rfl (by decide) _ ml ML rfl ((Ho2.out.kept HKY.out (fun _ _ => id)).alloc _) ((Hm2.out.trans HKY.out).alloc _) Hf2.out (some ⟨_, 0, none⟩) 1 1 [.int .i64 (y.1 : Int), .int .i64 (y.2 : Int)] rfl rfl (by simp) (fun ad had => by cases had; exact cell_two_pl _ _ _ _ _ (by simp)) (by simp [Value.oneCell']) (by unfold maxLen; omega) (by omega) ?_; intro v4 w4 o4 k4 l4 f4 n4)
                | fail)
              have hb4 := (Hb2.out.kept ((HKY.out.alloc (.cells #[.int .i64 (y.1 : Int), .int .i64 (y.2 : Int)] 36))) id).kept l4 Hn2.out
              have hn4 : XB ∉ blkOf v4 := fun h => by
                have z1 := Hb2.out.lt
                rcases n4 XB h with h | h
                · exact Hn2.out h
                · simp at h; omega
              rw [← HR.out, ← HMS.out, ← HML.out] at o4
              go_roundw
              case rel => exact ⟨jj + 1, by go_num, by omega, Lib.hid k4, Lib.hid o4, Lib.hid f4, Lib.hid hb4, Lib.hid hn4⟩
              case measure => simp only [intOf]; omega
            · have j2 : ¬ (y.2 : Int) < (x.2 : Int) := by omega
              have HR := Lib.hid (show rcs [andR x y] = [.int .i64 (y.1 : Int), .int .i64 (x.2 : Int)] by unfold andR; rw [show max x.1 y.1 = y.1 by omega, show min x.2 y.2 = x.2 by omega]; rfl)
              go_wp2_with (first
                | (at_builtin; refine append_own_kept (S := fun _ => False) w rfl _ _ 25 25 rfl 36 iR (.agg #[.int .i64 0, .int .i64 0]) 2 16 undRangesA undRangesA zz1 zz2 zz3 zz4 rfl (by decide) _ ml ML rfl ((Ho2.out.kept HKY.out (fun _ _ => id)).alloc _) ((Hm2.out.trans HKY.out).alloc _) Hf2.out (some ⟨_, 0, none⟩) 1 1 [.int .i64 (y.1 : Int), .int .i64 (x.2 : Int)] rfl rfl (by simp) (fun ad had => by cases had; exact cell_two_pl _ _ _ _ _ (by simp)) (by simp [Value.oneCell']) (by unfold maxLen; omega) (by omega) ?_; intro v4 w4 o4 k4 l4 f4 n4)
                | fail)
              have hb4 := (Hb2.out.kept ((HKY.out.alloc (.cells #[.int .i64 (y.1 : Int), .int .i64 (x.2 : Int)] 36))) id).kept l4 Hn2.out
              have hn4 : XB ∉ blkOf v4 := fun h => by
                have z1 := Hb2.out.lt
                rcases n4 XB h with h | h
                · exact Hn2.out h
                · simp at h; omega
              rw [← HR.out, ← HMS.out, ← HML.out] at o4
              go_roundw
              case rel => exact ⟨jj + 1, by go_num, by omega, Lib.hid k4, Lib.hid o4, Lib.hid f4, Lib.hid hb4, Lib.hid hn4⟩
              case measure => simp only [intOf]; omega
          · have j1 : ¬ (x.1 : Int) < (y.1 : Int) := by omega
            by_cases h2 : y.2 < x.2
            · have j2 : (y.2 : Int) < (x.2 : Int) := by omega
              have HR := Lib.hid (show rcs [andR x y] = [.int .i64 (x.1 : Int), .int .i64 (y.2 : Int)] by unfold andR; rw [show max x.1 y.1 = x.1 by omega, show min x.2 y.2 = y.2 by omega]; rfl)
              go_wp2_with (first
                | (at_builtin; refine append_own_kept (S := fun _ => False) w rfl _ _ 25 25 rfl 36 iR (.agg #[.int .i64 0, .int .i64 0]) 2 16 undRangesA undRangesA zz1 zz2 zz3 zz4 rfl (by decide) _ ml ML rfl ((Ho2.out.kept HKY.out (fun _ _ => id)).alloc _) ((Hm2.out.trans HKY.out).alloc _) Hf2.out (some ⟨_, 0, none⟩) 1 1 [.int .i64 (x.1 : Int), .int .i64 (y.2 : Int)] rfl rfl (by simp) (fun ad had => by cases had; exact cell_two_pl _ _ _ _ _ (by simp)) (by simp [Value.oneCell']) (by unfold maxLen; omega) (by omega) ?_; intro v4 w4 o4 k4 l4 f4 n4)
                | fail)
              have hb4 := (Hb2.out.kept ((HKY.out.alloc (.cells #[.int .i64 (x.1 : Int), .int .i64 (y.2 : Int)] 36))) id).kept l4 Hn2.out
              have hn4 : XB ∉ blkOf v4 := fun h => by
                have z1 := Hb2.out.lt
                rcases n4 XB h with h | h
                · exact Hn2.out h
                · simp at h; omega
              rw [← HR.out, ← HMS.out, ← HML.out] at o4
              go_roundw
              case rel => exact ⟨jj + 1, by go_num, by omega, Lib.hid k4, Lib.hid o4, Lib.hid f4, Lib.hid hb4, Lib.hid hn4⟩
              case measure => simp only [intOf]; omega
            · have j2 : ¬ (y.2 : Int) < (x.2 : Int) := by omega
              have HR := Lib.hid (show rcs [andR x y] = [.int .i64 (x.1 : Int), .int .i64 (x.2 : Int)] by unfold andR; rw [show max x.1 y.1 = x.1 by omega, show min x.2 y.2 = x.2 by omega]; rfl)
              go_wp2_with (first
                | (at_builtin; refine append_own_kept (S := fun _ => False) w rfl _ _ 25 25 rfl 36 iR (.agg #[.int .i64 0, .int .i64 0]) 2 16 undRangesA undRangesA zz1 zz2 zz3 zz4 rfl (by decide) _ ml ML rfl ((Ho2.out.kept HKY.out (fun _ _ => id)).alloc _) ((Hm2.out.trans HKY.out).alloc _) Hf2.out (some ⟨_, 0, none⟩) 1 1 [.int .i64 (x.1 : Int), .int .i64 (x.2 : Int)] rfl rfl (by simp) (fun ad had => by cases had; exact cell_two_pl _ _ _ _ _ (by simp)) (by simp [Value.oneCell']) (by unfold maxLen; omega) (by omega) ?_; intro v4 w4 o4 k4 l4 f4 n4)
                | fail)
              have hb4 := (Hb2.out.kept ((HKY.out.alloc (.cells #[.int .i64 (x.1 : Int), .int .i64 (x.2 : Int)] 36))) id).kept l4 Hn2.out
              have hn4 : XB ∉ blkOf v4 := fun h => by
                have z1 := Hb2.out.lt
                rcases n4 XB h with h | h
                · exact Hn2.out h
                · simp at h; omega
              rw [← HR.out, ← HMS.out, ← HML.out] at o4
              go_roundw
              case rel => exact ⟨jj + 1, by go_num, by omega, Lib.hid k4, Lib.hid o4, Lib.hid f4, Lib.hid hb4, Lib.hid hn4⟩
              case measure => simp only [intOf]; omega
        · obtain rfl : jj = nb := by omega
          have e : b.take jj = b := by rw [Hnb.out, List.take_length]
          rw [e] at Ho2 Hf2 Hn2 ⊢
          have HE := Lib.hid (show L0 ++ b.map (andR x) = andL (a.take (k + 1)) b from HST.out.symm)
          clear e
          generalize L0 ++ b.map (andR x) = L1 at *
          generalize hll : L1.length = ll at *
          have Hll := Lib.hid hll
          clear hll
          go_wp2
          go_roundw
          case rel => exact ⟨k + 1, by go_num, by omega, Hm2, Lib.hid (by rw [← HE.out, Hll.out]; exact Ho2.out), Hf2⟩
          case measure => simp only [intOf]; omega
    · obtain rfl : k = na := by omega
      have e : a.take k = a := by rw [Hna.out, List.take_length]
      rw [e] at Ho Hf ⊢
      have hlen : (andL a b).length ≤ 1000000 := by rw [andL_length]; exact HL.out
      have R2 := Lib.hid (RV.own Ho.out)
      have HN := Lib.hid hlen
      clear e hlen
      go_wp2_with (first
        | (go_at_call 10; (with_reducible refine (HM.out _ (andL a b) _ R2.out HRA.out HN.out).mono ?_); rintro ed w3 ⟨v3, s, rfl, t1, t2, t4, t5, t6, t7, t8⟩; have T1 := Lib.hid t1; have T2 := Lib.hid t2; have T5 := Lib.hid t5; have T6 := Lib.hid t6; have T7 := Lib.hid t7; clear t1 t2 t4 t5 t6 t7 t8)
        | fail)
      go_ret
      have hl2 : (andL a b).length = k * nb := by rw [andL_length, ← Hna.out, ← Hnb.out]
      exact ⟨_, s, rfl, T1.out, T2.out, by rw [← hl2]; exact T5.out, fun z => by rw [T6.out, inR_andL], Hm.out.trans T7.out⟩
end Go.Proofs
