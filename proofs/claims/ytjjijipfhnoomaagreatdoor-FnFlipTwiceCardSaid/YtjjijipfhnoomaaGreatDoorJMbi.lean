/-
  spec.Made on ranges of any ints, the empty ones whatever they hold.
  spec.Made.
  laws.span.
-/
import Derived.Test.YtjjijipfhnoomaaGreatDoorJWh
import Derived.BigRegion
import Derived.StillTailTactics
import Derived.Deep.DeepCutAuto
import Derived.Deep.RegionHeld3
import Derived.Deep.QuietTactic
import Derived.BigQuiet
namespace Go.Roar
open Go.RowKit Go.Proofs
/-- A slice that reads ranges of any ints. -/
def RVI (w : World) (v : Value) (rs : List (Int × Int)) : Prop :=
  ∃ A c, v = .slice A rs.length c ∧ ∀ (i : Nat) (r : Int × Int), rs[i]? = some r → ∃ g, A = some ⟨g, 0, none⟩ ∧ w.cell? ⟨g, i * 2, none⟩ = some (.int .i64 r.1) ∧ w.cell? ⟨g, i * 2 + 1, none⟩ = some (.int .i64 r.2)
/-- The ranges that hold any number. -/
def keepI (l : List (Int × Int)) : List (Nat × Nat) := (l.filter fun r => decide (r.1 ≤ r.2)).map fun r => (r.1.toNat, r.2.toNat)
theorem keepI_take {l : List (Int × Int)} {k : Nat} {r : Int × Int} (h : l[k]? = some r) : keepI (l.take (k + 1)) = if r.1 ≤ r.2 then keepI (l.take k) ++ [(r.1.toNat, r.2.toNat)] else keepI (l.take k) := by
  obtain ⟨hk, rfl⟩ := List.getElem?_eq_some_iff.1 h
  unfold keepI
  rw [List.take_succ_eq_append_getElem hk, List.filter_append, List.map_append]
  by_cases hc : l[k].1 ≤ l[k].2 <;> simp [hc]
theorem keepI_len (l : List (Int × Int)) : (keepI l).length ≤ l.length := by
  unfold keepI
  rw [List.length_map]
  exact List.length_filter_le _ _
theorem keepI_nat (l : List (Nat × Nat)) : keepI (l.map fun r => ((r.1 : Int), (r.2 : Int))) = keep l := by
  unfold keepI keep
  rw [List.filter_map, List.map_map]
  induction l with
  | nil => rfl
  | cons r l ih =>
    rw [List.filter_cons, List.filter_cons]
    by_cases h : r.1 ≤ r.2
    · have h2 : (r.1 : Int) ≤ (r.2 : Int) := by omega
      simp only [Function.comp_apply, h, h2, decide_true, if_true, List.map_cons, ih]
      simp
    · have h2 : ¬ (r.1 : Int) ≤ (r.2 : Int) := by omega
      simp only [Function.comp_apply, h, h2, decide_false]
      simpa using ih
theorem RV.toI {w : World} {v : Value} {rs : List (Nat × Nat)} (h : RV w v rs) : RVI w v (rs.map fun r => ((r.1 : Int), (r.2 : Int))) := by
  obtain ⟨A, c, rfl, h⟩ := h
  refine ⟨A, c, by rw [List.length_map], fun i r hr => ?_⟩
  rw [List.getElem?_map] at hr
  obtain ⟨q, hq, rfl⟩ := Option.map_eq_some_iff.1 hr
  exact h i q hq
end Go.Roar
namespace Go.Proofs
open Go.RowKit Go.Roar
theorem cell_two_at (w : World) (x y : Value) (t : TypeId) (q : Nat) (hq : q = w.heap.size) : ∀ j u, [x, y][j]? = some u → (w.alloc (.cells #[x, y] t)).cell? ((⟨q, 0, none⟩ : Addr).add j) = some u := by
  subst hq; exact cell_two_new w x y t
theorem infoRange : (Tryz.prog.info? 38).map (fun i => (i.zero, i.size, i.bytes)) = some (some (.agg #[.int .i64 0, .int .i64 0]), 2, 16) := by kernel_rfl
theorem undRanges : Tryz.prog.underlying 24 = some (.slice 38) := by kernel_rfl

theorem undSet : Tryz.prog.underlying 25 = some (.slice 38) := by kernel_rfl

set_option maxRecDepth 100000 in
set_option maxHeartbeats 4000000 in
theorem madeI_any (u : Value) (rs : List (Int × Int)) (w : World) (hu : RVI w u rs) (hb : ∀ r ∈ rs, r.1 ≤ r.2 → 0 ≤ r.1 ∧ r.2 < 4294967296) (hl : rs.length ≤ 1000000) :
    Calls Tryz.prog 15 #[u] w fun e w' => ∃ v s, e = .returned v ∧ Own w' 2 38 v s.length (rcs s) ∧ RgOK 4294967296 s ∧ rgCard s ≤ rgCard (keepI rs) ∧ s.length ≤ rs.length ∧ (∀ x, x ∈ rgNums s ↔ inR (keepI rs) x) ∧ Mild w w' ∧ (∀ b ∈ blkOf v, w.heap.size ≤ b) := by
  obtain ⟨iR, u1, u2, u3, u4⟩ := info_parts infoRange
  obtain ⟨B, d, rfl, hu⟩ := hu
  have m0 : Mild w (w.alloc (.cells #[] 38)) := (Kept.refl _ _).alloc _
  have ow0 : Own (w.alloc (.cells #[] 38)) 2 38 (.slice (some ⟨w.heap.size, 0, none⟩) 0 0) 0 [] := ⟨rfl, .inr ⟨w.heap.size, 0, [], rfl, rfl, by unfold maxLen; omega, Blk.new w _ []⟩⟩
  have M0 := Lib.hid m0
  have W0 := Lib.hid ow0
  have Hu := Lib.hid hu
  have Hb := Lib.hid hb
  clear m0 ow0 hu hb
  generalize hln : rs.length = nr at *
  have Hl := Lib.hid hln
  clear hln
  go_enter Tryz.func15, Tryz.ntmps15
  go_wp2
  go_loopw [15, 3] (fun i v wr => ∃ k : Nat, i = .int .i64 k ∧ k ≤ nr ∧ Hid (Mild w wr) ∧ Hid (Own wr 2 38 v (keepI (rs.take k)).length (rcs (keepI (rs.take k)))) ∧ Hid (∀ b ∈ blkOf v, w.heap.size ≤ b)) (fun i _ _ => nr - (intOf i).toNat)
  case atStart => exact ⟨0, rfl, Nat.zero_le _, M0, W0, Lib.hid (by simp)⟩
  case round =>
    obtain ⟨k, rfl, hk, Hm, Ho, Hf⟩ := hrel
    by_cases hlt : k < nr
    · obtain ⟨⟨r1, r2⟩, hx⟩ : ∃ r, rs[k]? = some r := ⟨_, List.getElem?_eq_getElem (by rw [Hl.out]; exact hlt)⟩
      obtain ⟨g, rfl, a1, a2⟩ := Hu.out k (r1, r2) hx
      have ca := Hm.out.cell2 id a1
      have cb := Hm.out.cell2 id a2
      have i1 : (k : Int) < (nr : Int) := by omega
      have hkt := keepI_take hx
      have hbr := Hb.out (r1, r2) (List.mem_of_getElem? hx)
      simp only at hbr hkt a1 a2
      have hkl : (keepI (rs.take k)).length ≤ 1000000 := by
        have h1 := keepI_len (rs.take k)
        simp only [List.length_take] at h1
        omega
      obtain ⟨A, c, rfl⟩ := Ho.out.form
      have Hoa := Lib.hid ((Ho.out.alloc (.cells #[.int .i64 r1, .int .i64 r2] 38)))
      have Hma := Lib.hid (Hm.out.alloc (.cells #[.int .i64 r1, .int .i64 r2] 38))
      clear a1 a2 hx
      by_cases hc : r1 ≤ r2
      · rw [if_pos hc] at hkt
        obtain ⟨p0, p1⟩ := hbr hc
        obtain ⟨a, rfl⟩ := Int.eq_ofNat_of_zero_le p0
        obtain ⟨b, rfl⟩ := Int.eq_ofNat_of_zero_le (show 0 ≤ r2 by omega)
        rw [Int.toNat_natCast, Int.toNat_natCast] at hkt
        clear hbr p0 p1
        have Hkt := Lib.hid hkt
        clear hkt
        generalize keepI (rs.take k) = L at *
        have i2 : decide ((a : Int) ≤ (b : Int)) = true := by simp; omega
        generalize hml : L.length = ml at *
        have Hml := Lib.hid hml
        clear hml
        go_wp2_with (first
          | (at_builtin; refine wpList_append_own_at _ rfl _ _ 24 rfl 0 38 iR (.agg #[.int .i64 0, .int .i64 0]) 2 16 undRanges u1 u2 u3 u4 rfl (by decide) _ ml (rcs L) rfl (Hoa.out.alloc _).toRow ⟨wr.heap.size + 1, 0, none⟩ 1 1 [.int .i64 (a : Int), .int .i64 (b : Int)] rfl rfl (cell_two_at _ _ _ _ _ (by simp)) (by intro u hu; simp at hu; rcases hu with rfl | rfl <;> rfl) (by unfold maxLen; omega) (by omega) (Nat.zero_le _) ?_; intro v' w4 hown' hgrow hnil hat))
        have own4 := Own.ofRow hown'
        have hcs : rcs L ++ [.int .i64 (a : Int), .int .i64 (b : Int)] = rcs (keepI (rs.take (k + 1))) := by rw [Hkt.out, rcs_append]; rfl
        have hln2 : (keepI (rs.take (k + 1))).length = ml + 1 := by rw [Hkt.out, List.length_append, Hml.out]; rfl
        rw [hcs, ← hln2] at own4
        have kA : Mild wr ((wr.alloc (.cells #[.int .i64 (a : Int), .int .i64 (b : Int)] 38)).alloc (.cells #[.int .i64 (a : Int), .int .i64 (b : Int)] 38)) := ((Kept.refl _ _).alloc _).alloc _
        obtain ⟨kG, fG⟩ := grow_mild (v := .slice A ml c) Hm.out kA hgrow Hf.out hat
        go_roundw
        case rel => exact ⟨k + 1, by go_num, by omega, Lib.hid kG, Lib.hid own4, Lib.hid fG⟩
        case measure => simp only [intOf]; omega
      · rw [if_neg hc] at hkt
        have Hkt := Lib.hid hkt
        clear hkt
        have i2 : decide (r1 ≤ r2) = false := by simp; omega
        generalize keepI (rs.take k) = L at *
        generalize hml : L.length = ml at *
        have Hml := Lib.hid hml
        clear hml
        go_wp2
        go_roundw
        case rel => exact ⟨k + 1, by go_num, by omega, Hma, Lib.hid (by rw [Hkt.out, Hml.out]; exact Hoa.out), Hf⟩
        case measure => simp only [intOf]; omega
    · obtain rfl : k = nr := by omega
      have e : rs.take k = rs := by rw [← Hl.out, List.take_length]
      have ho := Ho.out
      rw [e] at ho
      have hkb : ∀ r ∈ keepI rs, r.1 ≤ r.2 ∧ r.2 < 4294967296 := by
        intro r hr
        unfold keepI at hr
        obtain ⟨q, hq, rfl⟩ := List.mem_map.1 hr
        rw [List.mem_filter] at hq
        have h1 : q.1 ≤ q.2 := by simpa using hq.2
        have h2 := Hb.out q hq.1 h1
        exact ⟨by dsimp only; omega, by dsimp only; omega⟩
      have hkn : (keepI rs).length ≤ k := by rw [← Hl.out]; exact keepI_len _
      have Hkb := Lib.hid hkb
      have Ho3 := Lib.hid ho
      clear ho hkb Ho e
      generalize hL0 : keepI rs = L0 at *
      have HL0 := Lib.hid hL0
      clear hL0
      obtain ⟨A, c, rfl⟩ := Ho3.out.form
      generalize hnl : L0.length = n at *
      obtain ⟨C, hC⟩ : ∃ C, L0 = C := ⟨_, rfl⟩
      have HC := Lib.hid hC
      clear hC
      have Hnl := Lib.hid hnl
      clear hnl
      go_wp2_with fail
      go_loopw [31] (fun i wr => ∃ (k : Nat) (M : List (Nat × Nat)), i = .int .i64 k ∧ k ≤ n ∧ Hid (Mild w wr) ∧ Hid (Own wr 2 38 (.slice A n c) n (rcs M)) ∧ Hid (Srk k n C M)) (fun i _ => n - (intOf i).toNat)
      case atStart => exact ⟨0, L0, rfl, Nat.zero_le _, Hm, Ho3, Lib.hid ⟨by simp, Hkb.out, by rw [HC.out], Hnl.out⟩⟩
      case round =>
        obtain ⟨k, M, rfl, hk, Hm, Ho, HM⟩ := hrel
        by_cases hlt : k < n
        · obtain ⟨g, kk, rr, hv, _, _, _⟩ := Ho.out.open (by omega)
          obtain ⟨rfl, rfl⟩ : A = some ⟨g, 0, none⟩ ∧ c = n + kk := by simp at hv; exact hv
          have i1 : (k : Int) < (n : Int) := by omega
          have HD := Lib.hid (srtd_start HM.out hlt)
          clear hv HM
          go_wp2_with fail
          go_loopw [7] (fun y wx => ∃ (j : Nat) (M : List (Nat × Nat)), y = .int .i64 j ∧ Hid (Mild w wx) ∧ Hid (Own wx 2 38 (.slice (some ⟨g, 0, none⟩) n (n + kk)) n (rcs M)) ∧ Hid (Srtd k n C M j)) (fun y _ => (intOf y).toNat)
          case atStart => exact ⟨k, M, rfl, Hm, Ho, HD⟩
          case round =>
            obtain ⟨j, M, rfl, Hm2, Ho2, HD2⟩ := hrel
            have hjk := srtd_lt HD2.out
            rcases j with _ | j
            · have e0 : ((0 : Nat) : Int) = 0 := rfl
              rw [e0]
              have HS := Lib.hid (srtd_end0 HD2.out)
              go_wp2_with fail
              go_quiet (fail)
              go_wp2_with fail
              go_roundw
              case rel => exact ⟨k + 1, M, by go_num, by omega, Lib.hid (Hm2.out.drewN _), Lib.hid (Ho2.out.kept ((Kept.refl _ _).drewN _) (fun _ _ => id)), HS⟩
              case measure => simp only [intOf]; omega
            · obtain ⟨p, hp⟩ : ∃ p, M[j]? = some p := ⟨_, List.getElem?_eq_getElem (by omega)⟩
              obtain ⟨x, hx⟩ : ∃ x, M[j + 1]? = some x := ⟨_, List.getElem?_eq_getElem (by omega)⟩
              obtain ⟨g2, kk2, rr2, hv2, _, _, hb2⟩ := Ho2.out.open (by omega)
              obtain ⟨rfl, rfl⟩ : g = g2 ∧ kk = kk2 := by simp at hv2; omega
              have p1 := (hb2.cell (j * 2)).trans (by rw [List.getElem?_append_left (List.getElem?_eq_some_iff.1 (rcs_at hp).1).1, (rcs_at hp).1])
              have p2 := (hb2.cell (j * 2 + 1)).trans (by rw [List.getElem?_append_left (List.getElem?_eq_some_iff.1 (rcs_at hp).2).1, (rcs_at hp).2])
              have x1 := (hb2.cell ((j + 1) * 2)).trans (by rw [List.getElem?_append_left (List.getElem?_eq_some_iff.1 (rcs_at hx).1).1, (rcs_at hx).1])
              have x2 := (hb2.cell ((j + 1) * 2 + 1)).trans (by rw [List.getElem?_append_left (List.getElem?_eq_some_iff.1 (rcs_at hx).2).1, (rcs_at hx).2])
              obtain ⟨m, hm⟩ : ∃ m, m = j + 1 := ⟨_, rfl⟩
              rw [← hm] at x1 x2 hx HD2
              rw [← hm]
              have j0 : 0 < m := by omega
              have j1 : (m : Int) < (n : Int) := by omega
              have j2 : (m : Int) - 1 = (j : Int) := by omega
              have j3 : (j : Int) < (n : Int) := by omega
              have Hmj := Lib.hid hm
              clear hv2
              by_cases hlt2 : x.1 < p.1
              · have HS := Lib.hid (srtd_swap (hm ▸ HD2.out) hp (hm ▸ hx) hlt2)
                clear hm
                have i2 : decide ((x.1 : Int) < (p.1 : Int)) = true := by simp; omega
                go_wp2_with fail
                go_quiet (fail)
                go_wp2_with fail
                have hbW : Blk (wr.drewN nq) g 38 (rcs M ++ rr2) := hb2.drewN _
                have kW : Mild w (wr.drewN nq) := Hm2.out.drewN _
                have oW : Own (wr.drewN nq) 2 38 (.slice (some ⟨g, 0, none⟩) n (n + kk)) n (rcs M) := Ho2.out.kept ((Kept.refl _ _).drewN _) (fun _ _ => id)
                clear p1 p2 x1 x2 hb2
                generalize wr.drewN nq = W at hbW kW oW ⊢
                have p1 := (hbW.cell (j * 2)).trans (by rw [List.getElem?_append_left (List.getElem?_eq_some_iff.1 (rcs_at hp).1).1, (rcs_at hp).1])
                have p2 := (hbW.cell (j * 2 + 1)).trans (by rw [List.getElem?_append_left (List.getElem?_eq_some_iff.1 (rcs_at hp).2).1, (rcs_at hp).2])
                have x1 := (hbW.cell (m * 2)).trans (by rw [List.getElem?_append_left (List.getElem?_eq_some_iff.1 (rcs_at hx).1).1, (rcs_at hx).1])
                have x2 := (hbW.cell (m * 2 + 1)).trans (by rw [List.getElem?_append_left (List.getElem?_eq_some_iff.1 (rcs_at hx).2).1, (rcs_at hx).2])
                have f1 := hbW.free (j * 2)
                have f2 := hbW.free (j * 2 + 1)
                have f3 := hbW.free (m * 2)
                have f4 := hbW.free (m * 2 + 1)
                have n1 : ¬ j * 2 = m * 2 := by have := Hmj.out; omega
                have n2 : ¬ j * 2 = m * 2 + 1 := by omega
                have n3 : ¬ j * 2 + 1 = m * 2 := by omega
                have n4 : ¬ j * 2 + 1 = m * 2 + 1 := by have := Hmj.out; omega
                have KW := Lib.hid kW
                have OW := Lib.hid oW
                clear hbW kW oW hp hx
                go_region
                go_wp2_with fail
                have hgw : w.heap.size ≤ g := Hf.out g (by simp)
                have hlr : (rcs M).length = n * 2 := by rw [rcs_length, hjk.2.2]
                have hng : ∀ (W' : World) (i : Nat) (u : Value), Mild w W' → Mild w (W'.setCell ⟨g, i, none⟩ u) := fun W' i u h => Kept.setCell (p := ⟨g, i, none⟩) h (fun h => absurd h (by show ¬ g < _; omega)) u
                have o1 := Own.setCell OW.out (m * 2) (.int .i64 (p.1 : Int)) (by omega)
                have o2 := Own.setCell o1 (m * 2 + 1) (.int .i64 (p.2 : Int)) (by rw [List.length_set]; omega)
                rw [rcs_set] at o2
                have o3 := Own.setCell o2 (j * 2) (.int .i64 (x.1 : Int)) (by rw [rcs_length, List.length_set]; omega)
                have o4 := Own.setCell o3 (j * 2 + 1) (.int .i64 (x.2 : Int)) (by rw [List.length_set, rcs_length, List.length_set]; omega)
                rw [rcs_set] at o4
                have O4 := Lib.hid (Own_drew o4)
                have K4 := Lib.hid ((hng _ (j * 2 + 1) (.int .i64 (x.2 : Int)) (hng _ (j * 2) (.int .i64 (x.1 : Int)) (hng _ (m * 2 + 1) (.int .i64 (p.2 : Int)) (hng _ (m * 2) (.int .i64 (p.1 : Int)) KW.out)))).drew)
                rw [← Hmj.out] at HS
                clear o1 o2 o3 o4 hng
                go_roundw
                case rel => exact ⟨j, _, rfl, K4, O4, HS⟩
                case measure => have := Hmj.out; simp only [intOf]; omega
              · have HS := Lib.hid (srtd_endp (hm ▸ HD2.out) hp (hm ▸ hx) (by omega))
                clear hm
                have i2 : decide ((x.1 : Int) < (p.1 : Int)) = false := by simp; omega
                clear hp hx
                go_wp2_with fail
                go_quiet (fail)
                go_wp2_with fail
                go_roundw
                case rel => exact ⟨k + 1, M, by go_num, by omega, Lib.hid (Hm2.out.drewN _), Lib.hid (Ho2.out.kept ((Kept.refl _ _).drewN _) (fun _ _ => id)), HS⟩
                case measure => simp only [intOf]; omega
        · obtain rfl : k = n := by omega
          obtain ⟨y1, y2, y3, y4⟩ := HM.out
          have eM : M.take k = M := by rw [← y4, List.take_length]
          rw [eM] at y1
          have hrv : RV wr (.slice A k c) M := RV.own (by rw [y4]; exact Ho.out)
          obtain ⟨A', c', he, hrv⟩ := hrv
          obtain ⟨rfl, rfl⟩ : A = A' ∧ c = c' := by simp at he; exact ⟨he.1, he.2.2⟩
          have m0 : Mild wr (wr.alloc (.cells #[] 38)) := (Kept.refl _ _).alloc _
          have ow0 : Own (wr.alloc (.cells #[] 38)) 2 38 (.slice (some ⟨wr.heap.size, 0, none⟩) 0 0) 0 [] := ⟨rfl, .inr ⟨wr.heap.size, 0, [], rfl, rfl, by unfold maxLen; omega, Blk.new wr _ []⟩⟩
          have M0 := Lib.hid m0
          have W0 := Lib.hid ow0
          have Hrv := Lib.hid hrv
          have Hy2 := Lib.hid y2
          have Hmg := Lib.hid (merge_ok (n := 4294967296) M [] (RgOK.nil _) y2 y1 (by simp))
          have Hmm := Lib.hid (merge_mem (n := 4294967296) M [] (RgOK.nil _) y2 y1 (by simp))
          have Hsw := Lib.hid Hm.out.size
          have Hy3 := Lib.hid y3
          have Hy4 := Lib.hid y4
          have Hlen := Lib.hid (show ∀ i, ((M.take i).foldl mergeStep []).length ≤ i from fun i => by
            have := (merge_ok (n := 4294967296) (M.take i) [] (RgOK.nil _) (fun r hr => y2 r (List.mem_of_mem_take hr)) (y1.sublist (List.take_sublist _ _)) (by simp)).2.2
            simp only [List.length_nil, List.length_take] at this; omega)
          have Hbd := Lib.hid (show ∀ i, ∀ r ∈ (M.take i).foldl mergeStep [], r.2 < 4294967296 from fun i r hr => 
            ((merge_ok (n := 4294967296) (M.take i) [] (RgOK.nil _) (fun r hr => y2 r (List.mem_of_mem_take hr)) (y1.sublist (List.take_sublist _ _)) (by simp)).1.1 r hr).2)
          clear he y1 y2 y3 y4 hrv m0 ow0 eM
          go_wp2_with fail
          go_loopw [73, 8] (fun i v wx => ∃ q : Nat, i = .int .i64 q ∧ q ≤ k ∧ Hid (Mild wr wx) ∧ Hid (Own wx 2 38 v ((M.take q).foldl mergeStep []).length (rcs ((M.take q).foldl mergeStep []))) ∧ Hid (∀ b ∈ blkOf v, wr.heap.size ≤ b)) (fun i _ _ => k - (intOf i).toNat)
          case atStart => exact ⟨0, rfl, Nat.zero_le _, M0, W0, Lib.hid (by simp)⟩
          case round =>
            obtain ⟨q, rfl, hq, Hm5, Ho5, Hf5⟩ := hrel
            by_cases hlt : q < k
            · obtain ⟨r, hx⟩ : ∃ r, M[q]? = some r := ⟨_, List.getElem?_eq_getElem (by rw [Hy4.out]; exact hlt)⟩
              obtain ⟨g, rfl, a1, a2⟩ := Hrv.out q r hx
              obtain ⟨r1, r2⟩ := Hy2.out r (List.mem_of_getElem? hx)
              have ca := Hm5.out.cell2 id a1
              have cb := Hm5.out.cell2 id a2
              have i1 : (q : Int) < (k : Int) := by omega
              have Hmt := Lib.hid (merge_take hx)
              have hle := Hlen.out q
              have hbd := Hbd.out q
              have hnb := Blk.new wr 38 [.int .i64 (r.1 : Int), .int .i64 (r.2 : Int)]
              generalize (M.take q).foldl mergeStep [] = out at *
              obtain ⟨A2, c2, rfl⟩ := Ho5.out.form
              have HoA := Lib.hid ((Ho5.out.alloc (.cells #[.int .i64 (r.1 : Int), .int .i64 (r.2 : Int)] 38)))
              have HmA := Lib.hid ((Hm5.out.alloc (.cells #[.int .i64 (r.1 : Int), .int .i64 (r.2 : Int)] 38)))
              have Hlo := Lib.hid Ho5.out.lt
              clear a1 a2 hx Ho5 Hm5
              rcases List.eq_nil_or_concat out with rfl | ⟨m, ⟨a, b⟩, rfl⟩
              · simp only [List.length_nil] at *
                go_wp2_with fail
                go_quiet (fail)
                have hB := hnb.drewN nq
                have HmW := Lib.hid (HmA.out.drewN nq)
                have HoW := Lib.hid (HoA.out.kept ((Kept.refl _ _).drewN nq) (fun _ _ => id))
                clear HmA HoA hnb
                generalize (wr.alloc (Obj.cells #[Value.int IntKind.i64 (r.1 : Int), Value.int IntKind.i64 (r.2 : Int)] 38)).drewN nq = W at hB HmW HoW ⊢
                have g0 := hB.cell 0
                have g1 := hB.cell 1
                simp only [List.getElem?_cons_zero, List.getElem?_cons_succ] at g0 g1
                generalize wr.heap.size = z at g0 g1 hB ⊢
                go_wp2_with (first
                  | (at_builtin; refine wpList_append_own_at _ rfl _ _ 25 rfl 0 38 iR (.agg #[.int .i64 0, .int .i64 0]) 2 16 undSet u1 u2 u3 u4 rfl (by decide) _ 0 (rcs []) rfl (HoW.out.alloc _).toRow ⟨W.heap.size, 0, none⟩ 1 1 [.int .i64 (r.1 : Int), .int .i64 (r.2 : Int)] rfl rfl (cell_two_new _ _ _ _) (by intro u hu; simp at hu; rcases hu with rfl | rfl <;> rfl) (by unfold maxLen; omega) (by omega) (Nat.zero_le _) ?_; intro v' w4 hown' hgrow hnil hat))
                have own4 := Own.ofRow hown'
                have kA : Mild W (W.alloc (.cells #[.int .i64 (r.1 : Int), .int .i64 (r.2 : Int)] 38)) := (Kept.refl _ _).alloc _
                obtain ⟨kG, fG⟩ := grow_mild (v := .slice A2 0 c2) HmW.out kA hgrow Hf5.out hat
                rw [show rcs [] ++ [Value.int IntKind.i64 (r.1 : Int), Value.int IntKind.i64 (r.2 : Int)] = rcs (mergeStep [] r) from rfl, ← Hmt.out, show 0 + 1 = ((M.take (q + 1)).foldl mergeStep []).length by rw [Hmt.out]; rfl] at own4
                have KG := Lib.hid kG
                have FG := Lib.hid fG
                have OG := Lib.hid own4
                clear kG fG own4 hown' hgrow hat hnil kA
                go_roundw
                case rel => exact ⟨q + 1, by go_num, by omega, KG, OG, FG⟩
                case measure => simp only [intOf]; omega
              · rw [List.concat_eq_append] at *
                have hlo : (m ++ [(a, b)]).length = m.length + 1 := by simp
                have hab := hbd (a, b) (by simp)
                obtain ⟨ol, hol⟩ : ∃ ol, ol = m.length + 1 := ⟨_, rfl⟩
                rw [hlo, ← hol] at HoA hle Hf5 Hlo
                rw [hlo, ← hol]
                obtain ⟨g2, k2, rr2, hv2, _, _, hb2⟩ := HoA.out.open (by omega)
                obtain ⟨rfl, rfl⟩ : A2 = some ⟨g2, 0, none⟩ ∧ c2 = ol + k2 := by simp at hv2; exact hv2
                have hcs := (rcs_at (rs := m ++ [(a, b)]) (i := m.length) (r := (a, b)) (by simp)).2
                have c0 := (hb2.cell (m.length * 2 + 1)).trans (by rw [List.getElem?_append_left (List.getElem?_eq_some_iff.1 hcs).1, hcs])
                have cf := hb2.free (m.length * 2 + 1)
                have hsetc : (rcs (m ++ [(a, b)])).set (m.length * 2 + 1) (.int .i64 (max b r.2 : Nat)) = rcs (m ++ [(a, max b r.2)]) := by
                  rw [rcs_append, rcs_append, List.set_append_right _ _ (by rw [rcs_length]; omega), rcs_length, show m.length * 2 + 1 - m.length * 2 = 1 by omega]; rfl
                have hsl : m.length * 2 + 1 < (rcs (m ++ [(a, b)])).length := by rw [rcs_length, hlo]; omega
                have Hsc := Lib.hid hsetc
                have Hsl := Lib.hid hsl
                have Hmn := Lib.hid (mergeStep_new m a b r)
                have Hmo := Lib.hid (mergeStep_on m a b r)
                have Hlm := Lib.hid (show ∀ y, (m ++ [(a, y)]).length = ol from fun y => by simp [hol])
                have Hg2 := Lib.hid (Hf5.out g2 (by simp))
                have Hgz := Lib.hid (Hlo.out g2 (by simp))
                generalize m.length = ml at *
                have Hol := Lib.hid hol
                have j0 : 0 < ol := by omega
                have j1 : (ol : Int) - 1 = (ml : Int) := by omega
                have j2 : (ml : Int) < (ol : Int) := by omega
                clear hv2 hsetc hsl hcs hlo hol hb2
                by_cases hc : r.1 ≤ b + 1
                · have i2 : decide ((r.1 : Int) ≤ (b : Int) + 1) = true := by simp; omega
                  go_wp2_with fail
                  go_quiet (fail)
                  go_wp2_with fail
                  have hB := hnb.drewN nq
                  have HmW := Lib.hid (HmA.out.drewN nq)
                  have HoW := Lib.hid (HoA.out.kept ((Kept.refl _ _).drewN nq) (fun _ _ => id))
                  have c1 : ((wr.alloc (Obj.cells #[Value.int IntKind.i64 (r.1 : Int), Value.int IntKind.i64 (r.2 : Int)] 38)).drewN nq).cell? ⟨g2, ml * 2 + 1, none⟩ = some (.int .i64 (b : Int)) := c0
                  have c2 : ((wr.alloc (Obj.cells #[Value.int IntKind.i64 (r.1 : Int), Value.int IntKind.i64 (r.2 : Int)] 38)).drewN nq).frozen? ⟨g2, ml * 2 + 1, none⟩ = false := cf
                  clear HmA HoA hnb c0 cf
                  generalize (wr.alloc (Obj.cells #[Value.int IntKind.i64 (r.1 : Int), Value.int IntKind.i64 (r.2 : Int)] 38)).drewN nq = W at hB HmW HoW c1 c2 ⊢
                  have g1 := hB.cell 1
                  simp only [List.getElem?_cons_zero, List.getElem?_cons_succ] at g1
                  generalize wr.heap.size = z at g1 hB ⊢
                  have d1 : W.drew.cell? ⟨z, 1, none⟩ = some (.int .i64 (r.2 : Int)) := g1
                  have d2 : W.drew.cell? ⟨g2, ml * 2 + 1, none⟩ = some (.int .i64 (b : Int)) := c1
                  have d3 : W.drew.frozen? ⟨g2, ml * 2 + 1, none⟩ = false := c2
                  have e1 : IntKind.i64.wrap ((ol : Int) - 1) = (ml : Int) := by rw [j1]; exact IntWalk.i64_in _ (by omega)
                  have e2 : IntKind.i64.wrap (ml : Int) = (ml : Int) := IntWalk.i64_in _ (by omega)
                  have e3 : (0 : Int) ≤ (ml : Int) := by omega
                  refine wp_region_tail 14 (by kernel_rfl) (by decide +kernel) ?_
                  simp only [List.take_succ_cons, List.take_zero, List.drop_succ_cons, List.drop_zero]
                  repeat still_step
                  refine wpStill_nil ?_
                  show wpList _ _ _ _ _ _
                  go_wp2_with fail
                  have hmax : (if b < r.2 then (r.2 : Int) else (b : Int)) = ((max b r.2 : Nat) : Int) := by split <;> omega
                  have o5 := Own.setCell HoW.out (ml * 2 + 1) (.int .i64 ((max b r.2 : Nat) : Int)) Hsl.out
                  rw [Hsc.out] at o5
                  have hmr : (M.take (q + 1)).foldl mergeStep [] = m ++ [(a, max b r.2)] := by rw [Hmt.out, Hmo.out hc]
                  have O5 := Lib.hid (Own_drew o5)
                  have K5 := Lib.hid ((Kept.setCell (p := ⟨g2, ml * 2 + 1, none⟩) HmW.out (fun h => absurd h (by have := Hg2.out; show ¬ g2 < _; omega)) (.int .i64 ((max b r.2 : Nat) : Int))).drew)
                  rw [hmax]
                  clear o5 hmax
                  go_roundw
                  case rel => exact ⟨q + 1, by go_num, by omega, K5, by rw [hmr, Hlm.out]; exact O5, Hf5⟩
                  case measure => simp only [intOf]; omega
                · have i2 : decide ((r.1 : Int) ≤ (b : Int) + 1) = false := by simp; omega
                  go_wp2_with fail
                  go_quiet (fail)
                  have hB := hnb.drewN nq
                  have HmW := Lib.hid (HmA.out.drewN nq)
                  have HoW := Lib.hid (HoA.out.kept ((Kept.refl _ _).drewN nq) (fun _ _ => id))
                  clear HmA HoA hnb
                  generalize (wr.alloc (Obj.cells #[Value.int IntKind.i64 (r.1 : Int), Value.int IntKind.i64 (r.2 : Int)] 38)).drewN nq = W at hB HmW HoW ⊢
                  have g0 := hB.cell 0
                  have g1 := hB.cell 1
                  simp only [List.getElem?_cons_zero, List.getElem?_cons_succ] at g0 g1
                  generalize wr.heap.size = z at g0 g1 hB ⊢
                  go_wp2_with (first
                    | (at_builtin; refine wpList_append_own_at _ rfl _ _ 25 rfl 0 38 iR (.agg #[.int .i64 0, .int .i64 0]) 2 16 undSet u1 u2 u3 u4 rfl (by decide) _ ol (rcs (m ++ [(a, b)])) rfl (HoW.out.alloc _).toRow ⟨W.heap.size, 0, none⟩ 1 1 [.int .i64 (r.1 : Int), .int .i64 (r.2 : Int)] rfl rfl (cell_two_new _ _ _ _) (by intro u hu; simp at hu; rcases hu with rfl | rfl <;> rfl) (by unfold maxLen; omega) (by omega) (Nat.zero_le _) ?_; intro v' w4 hown' hgrow hnil hat))
                  have own4 := Own.ofRow hown'
                  have kA : Mild W (W.alloc (.cells #[.int .i64 (r.1 : Int), .int .i64 (r.2 : Int)] 38)) := (Kept.refl _ _).alloc _
                  obtain ⟨kG, fG⟩ := grow_mild (v := .slice (some ⟨g2, 0, none⟩) ol (ol + k2)) HmW.out kA hgrow Hf5.out hat
                  rw [show rcs (m ++ [(a, b)]) ++ [Value.int IntKind.i64 (r.1 : Int), Value.int IntKind.i64 (r.2 : Int)] = rcs (mergeStep (m ++ [(a, b)]) r) by rw [Hmn.out hc, rcs_append (m ++ [(a, b)])]; rfl, ← Hmt.out, show ol + 1 = ((M.take (q + 1)).foldl mergeStep []).length by rw [Hmt.out, Hmn.out hc, List.length_append, Hlm.out b]; rfl] at own4
                  have KG := Lib.hid kG
                  have FG := Lib.hid fG
                  have OG := Lib.hid own4
                  clear kG fG own4 hown' hgrow hat hnil kA
                  go_roundw
                  case rel => exact ⟨q + 1, by go_num, by omega, KG, OG, FG⟩
                  case measure => simp only [intOf]; omega
            · obtain rfl : q = k := by omega
              have e2 : M.take q = M := by rw [← Hy4.out, List.take_length]
              have ho5 := Ho5.out
              rw [e2] at ho5
              obtain ⟨z1, z2, z3⟩ := Hmg.out
              rw [card_perm Hy3.out] at z2
              simp only [List.length_nil, Hy4.out] at z3
              have hks := Hm.out.trans Hm5.out
              have hsw := Hsw.out
              have hz2 : rgCard (M.foldl mergeStep []) ≤ rgCard C := by simpa [rgCard] using z2
              go_wp2_with fail
              go_ret
              exact ⟨_, _, rfl, ho5, z1, by rw [HL0.out, HC.out]; exact hz2, by omega, fun x => by rw [rgNums_mem (fun r hr => (z1.1 r hr).1)]; show inR _ x ↔ _; rw [Hmm.out x, inR_perm Hy3.out, ← HC.out, ← HL0.out]; simp [inR], hks, fun b hb => by have := Hf5.out b hb; omega⟩
end Go.Proofs

namespace Go.Proofs
open Go.RowKit Go.Roar
theorem made_any : MadeC := by
  intro u rs w hu hb hl
  refine (madeI_any u _ w hu.toI (fun r hr _ => ?_) (by rw [List.length_map]; exact hl)).mono ?_
  · obtain ⟨q, hq, rfl⟩ := List.mem_map.1 hr
    have := hb q hq
    exact ⟨by dsimp only; omega, by dsimp only; omega⟩
  · rintro e w' ⟨v, s, h1, h2, h3, h4, h5, h6, h7, h8⟩
    rw [keepI_nat] at h4
    rw [List.length_map] at h5
    refine ⟨v, s, h1, h2, h3, h4, h5, fun x => ?_, h7, h8⟩
    rw [h6, keepI_nat, inR_keep]
end Go.Proofs

namespace Go.Proofs
open Go.RowKit Go.Roar
theorem keepI_span (a b z : Nat) : inR (keepI [((a : Int), (b : Int) - 1)]) z ↔ a ≤ z ∧ z < b := by
  unfold keepI
  by_cases h : (a : Int) ≤ (b : Int) - 1
  · simp only [List.filter_cons, List.filter_nil, decide_eq_true h, if_true, List.map_cons, List.map_nil, inR_one]
    omega
  · simp only [List.filter_cons, List.filter_nil, decide_eq_false h, Bool.false_eq_true, if_false, List.map_nil]
    exact ⟨fun g => absurd g (inR_nil z), fun g => absurd g (by omega)⟩
/-- What span answers. -/
def SpanP (a b : Nat) (w : World) (ed : Ending) (w' : World) : Prop :=
  ∃ (v : Value) (fine : Bool), ed = .returned (.tuple #[v, .bool fine]) ∧ Mild w w' ∧ (fine = true → a ≤ b ∧ b ≤ 4294967296 ∧ b - a ≤ 100000 ∧ ∃ s, RV w' v s ∧ RgOK 4294967296 s ∧ s.length ≤ 1 ∧ ∀ z, inR s z ↔ a ≤ z ∧ z < b)
set_option maxRecDepth 100000 in
set_option maxHeartbeats 2000000 in
theorem span_any (a b : Nat) (w : World) (ha : a < 18446744073709551616) (hb : b < 18446744073709551616) :
    Calls Tryz.prog 7 #[.int .u64 (a : Int), .int .u64 (b : Int)] w fun ed w' => SpanP a b w ed w' := by
  by_cases h1 : b ≤ 4294967296
  · have i1 : ¬ (4294967296 : Int) < (b : Int) := by omega
    by_cases h2 : a ≤ b
    · have i2 : ¬ (b : Int) < (a : Int) := by omega
      have q1 : IntKind.u64.wrap ((b : Int) - (a : Int)) = (b : Int) - (a : Int) := IntWalk.u64_in _ (by omega)
      by_cases h3 : b - a ≤ 100000
      · have i3 : ¬ (100000 : Int) < (b : Int) - (a : Int) := by omega
        have q2 : IntKind.i64.wrap (a : Int) = (a : Int) := IntWalk.i64_in _ (by omega)
        have q3 : IntKind.i64.wrap (b : Int) = (b : Int) := IntWalk.i64_in _ (by omega)
        have q4 : IntKind.i64.wrap ((b : Int) - 1) = (b : Int) - 1 := IntWalk.i64_in _ (by omega)
        have m0 : Mild w (w.alloc (.cells #[.int .i64 (a : Int), .int .i64 ((b : Int) - 1)] 38)) := (Kept.refl _ _).alloc _
        have hB := Blk.new w 38 [.int .i64 (a : Int), .int .i64 ((b : Int) - 1)]
        have HR : RVI (w.alloc (.cells #[.int .i64 (a : Int), .int .i64 ((b : Int) - 1)] 38)) (.slice (some ⟨w.heap.size, 0, none⟩) 1 1) [((a : Int), (b : Int) - 1)] := ⟨some ⟨w.heap.size, 0, none⟩, 1, rfl, fun i r hi => by
          rcases i with _ | i
          · simp at hi; subst hi
            exact ⟨w.heap.size, rfl, hB.cell 0, hB.cell 1⟩
          · simp at hi⟩
        have MD := Lib.hid (madeI_any _ _ _ HR (fun r hr h => by simp at hr; subst hr; simp only at h ⊢; omega) (by simp))
        have M0 := Lib.hid m0
        clear hB HR m0
        go_enter Tryz.func7, Tryz.ntmps7
        go_wp2_with (first
          | (go_at_call 15; (with_reducible refine MD.out.mono ?_); rintro ed w1 ⟨v, s, rfl, o1, o2, -, o4, o5, o6, -⟩; have O1 := Lib.hid (RV.own o1); have O2 := Lib.hid o2; have O4 := Lib.hid o4; have O5 := Lib.hid o5; have O6 := Lib.hid (M0.out.trans o6); clear o1 o2 o4 o5 o6)
          | fail)
        go_ret2
        refine ⟨v, true, rfl, O6.out, fun _ => ⟨h2, h1, h3, s, O1.out, O2.out, O4.out, fun z => ?_⟩⟩
        have h9 := O5.out z
        rw [rgNums_mem (fun r h => (O2.out.1 r h).1)] at h9
        exact h9.trans (keepI_span a b z)
      · have i3 : (100000 : Int) < (b : Int) - (a : Int) := by omega
        go_enter Tryz.func7, Tryz.ntmps7
        go_wp2
        go_ret2
        exact ⟨_, false, rfl, Kept.refl _ _, fun h => by cases h⟩
    · have i2 : (b : Int) < (a : Int) := by omega
      go_enter Tryz.func7, Tryz.ntmps7
      go_wp2
      go_ret2
      exact ⟨_, false, rfl, Kept.refl _ _, fun h => by cases h⟩
  · have i1 : (4294967296 : Int) < (b : Int) := by omega
    go_enter Tryz.func7, Tryz.ntmps7
    go_wp2
    go_ret2
    exact ⟨_, false, rfl, Kept.refl _ _, fun h => by cases h⟩
end Go.Proofs
