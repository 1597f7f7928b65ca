/-
  intIterator.AdvanceIfNeeded: the iterator of a set goes on to a number.
-/
import Derived.Test.YtplpoejknbhinaaGreatDoorJAdv
import Derived.Test.YtplpoejknbhinaaGreatDoorJKo
namespace Go.Roar
open Go.RowKit Go.Proofs
/-- The place of the container at which the iterator stands. -/
def posOf (w : World) (I : Nat) : Nat := match w.cell? ⟨I, 0, none⟩ with | some (.int _ n) => n.toNat | _ => 0
theorem posOf_eq {w : World} {I pos : Nat} {t : TypeId} {cs : List Value} (h : Blk w I t cs) (h0 : cs[0]? = some (.int .i64 (pos : Int))) : posOf w I = pos := by
  unfold posOf
  rw [(h.cell 0).trans h0]
  rfl
theorem map_rising {k : Nat} {l : List Nat} (h : Rising (l.map (k * 65536 + ·))) : Rising l :=
  (List.pairwise_map.1 h).imp (fun h => by omega)
theorem frm_map {k m : Nat} (l : List Nat) (h : k = m / 65536) : frm m (l.map (k * 65536 + ·)) = (frm (m % 65536) l).map (k * 65536 + ·) := by
  unfold frm
  rw [List.filter_map]
  congr 1
  refine List.filter_congr (fun x _ => ?_)
  simp only [Function.comp_apply]
  rw [Bool.eq_iff_iff, decide_eq_true_eq, decide_eq_true_eq]
  omega
theorem frm_low {k m : Nat} {l : List Nat} (hb : ∀ x ∈ l, x < 65536) (h : k < m / 65536) : frm m (l.map (k * 65536 + ·)) = [] :=
  frm_none (fun x hx => by
    obtain ⟨y, hy, rfl⟩ := List.mem_map.1 hx
    have := hb y hy
    omega)
theorem rest_ge {ps : List (Nat × List Nat)} {pos k : Nat} {ls : List Nat} (hk : Rising (ps.map (·.1))) (h : ps[pos]? = some (k, ls)) : ∀ x ∈ nums (ps.drop (pos + 1)), (k + 1) * 65536 ≤ x := by
  intro x hx
  obtain ⟨q, hq, hz⟩ := List.mem_flatMap.1 hx
  obtain ⟨z, hz, rfl⟩ := List.mem_map.1 hz
  obtain ⟨i, hi⟩ := List.getElem?_of_mem hq
  rw [List.getElem?_drop] at hi
  have := rising_lt hk pos (pos + 1 + i) k q.1 (by omega) (by rw [List.getElem?_map, h]; rfl) (by rw [List.getElem?_map, hi]; rfl)
  clear hk h hi hq hx hz
  omega
theorem It.pos_ge {w : World} {H I p d : Nat} {ps : List (Nat × List Nat)} {cs : List Value} (h : It w H I p ps cs (nums (ps.drop d))) (hk : Rising (ps.map (·.1))) (hf : ∀ x ∈ ps, ∀ y ∈ x.2, y < 65536) (hd : d ≤ ps.length) : d ≤ posOf w I := by
  obtain ⟨pos, a0, a1, a2⟩ := h.at_
  rw [posOf_eq h.blk a0]
  rcases a2 with ⟨rfl, _⟩ | ⟨k, ls, low, c1, _, c3, c4, _, c6⟩
  · exact hd
  · obtain ⟨y, hy⟩ := List.exists_mem_of_ne_nil _ c3
    have hm : k * 65536 + y ∈ nums (ps.drop d) := by
      rw [c6]
      exact List.mem_append_left _ (List.mem_map.2 ⟨y, hy, rfl⟩)
    obtain ⟨q, hq, hz⟩ := List.mem_flatMap.1 hm
    obtain ⟨z, hz, e⟩ := List.mem_map.1 hz
    have hzl := hf q (List.mem_of_mem_drop hq) z hz
    have hyl := c4 y hy
    obtain ⟨i, hi⟩ := List.getElem?_of_mem hq
    rw [List.getElem?_drop] at hi
    have hkk : q.1 = k := by omega
    refine Nat.not_lt.1 (fun hlt => ?_)
    have := rising_lt hk pos (d + i) k q.1 (by omega) (by rw [List.getElem?_map, c1]; rfl) (by rw [List.getElem?_map, hi]; rfl)
    omega
end Go.Roar
namespace Go.Proofs
open Go.RowKit Go.Roar

set_option maxRecDepth 100000 in
set_option maxHeartbeats 4000000 in
theorem iiAdv_any (H I p m : Nat) (ps : List (Nat × List Nat)) (w : World) (cs : List Value) (l : List Nat) (h : It w H I p ps cs l) (hW : Whole w H p ps) (hI : H ≤ I) (hm : m < 4294967296) (hs : Rising l) (hk : Rising (ps.map (·.1))) :
    Calls Tryz.prog 77 #[.pointer (some ⟨I, 0, none⟩), .int .u32 (m : Int)] w fun e w' => e = .returned (.tuple #[]) ∧ Kept (fun k => k = I) w w' ∧ ∃ cs', It w' H I p ps cs' (frm m l) := by
  have HIt := Lib.hid h
  have HW := Lib.hid hW
  have Hs := Lib.hid hs
  have hlen := hW.len
  have HK := Lib.hid (And.intro hk (fun (x : Nat × List Nat) (hx : x ∈ ps) => (hW.full x hx).2.2))
  have hTI : 0 ≠ I := by have := hW.tabH; omega
  obtain ⟨lo, hlo⟩ : ∃ lo, lo = m % 65536 := ⟨_, rfl⟩
  have CL := Lib.hid (show ∀ W : World, Calls Tryz.prog 19 #[.int .u32 (m : Int)] W fun ed w' => ed = .returned (.int .u16 (lo : Int)) ∧ W = w' from fun W => by rw [hlo]; exact low_any m W hm)
  have hlo2 : lo < 65536 := by omega
  have Hlo := Lib.hid hlo
  clear hlo
  obtain ⟨tw, hto⟩ : ∃ tw, tw = m / 65536 * 65536 := ⟨_, rfl⟩
  have q0 : bits .and .u32 (m : Int) 4294901760 = (tw : Int) := by
    have := Go.u32_and_nat m 4294901760 hm (by decide)
    rw [and_hi hm, ← hto] at this
    exact this
  have Hto := Lib.hid hto
  clear h hW hs hto hk
  go_enter Tryz.func77, Tryz.ntmps77
  go_wp2
  go_loopw [] (fun wr => ∃ cs l2, Hid (It wr H I p ps cs l2) ∧ Hid (Rising l2) ∧ Hid (frm m l2 = frm m l) ∧ Hid (Kept (fun k => k = I) w wr)) (fun wr => ps.length - posOf wr I)
  case atStart => exact ⟨cs, l, HIt, Hs, Lib.hid rfl, Lib.hid (Kept.refl _ _)⟩
  case round =>
    obtain ⟨cs2, l2, It2, Hs2, He2, K0⟩ := hrel
    have W2 := Lib.hid (HW.out.kept K0.out (fun b hb h => by omega))
    have C1 := Lib.hid (fun (W : World) (k : Mild wr W) => iiHas_any H I p ps W cs2 l2 (It2.out.kept k (fun _ _ => id) id) (W2.out.kept k (fun _ _ => id)))
    obtain ⟨pos, a0, a1, a2⟩ := It2.out.at_
    have b0 := (It2.out.blk.cell 0).trans a0
    have hpo := posOf_eq It2.out.blk a0
    rcases a2 with ⟨rfl, rfl⟩ | ⟨k, ls, low, c1, c2, c3, c4, c5, rfl⟩
    · have e : decide (([] : List Nat) ≠ []) = false := by simp
      rw [e] at C1
      clear e
      go_wp2_with (first
        | (go_at_call 78; (with_reducible refine (C1.out _ (Kept.refl _ _)).mono ?_); rintro ed w2 ⟨rfl, k2⟩; have K2 := Lib.hid k2; clear k2)
        | (go_at_call 78; (with_reducible refine (C1.out _ K2.out).mono ?_); rintro ed w3 ⟨rfl, k3⟩; have K3 := Lib.hid (K2.out.trans k3); clear k3)
        | fail)
      go_end0
      exact ⟨rfl, K0.out.trans (K3.out.mono (fun _ _ => False.elim)), cs2, by rw [← He2.out]; exact It2.out.kept K3.out (fun _ _ => id) id⟩
    · have b1 := (It2.out.blk.cell 1).trans c2
      have hpl := (List.getElem?_eq_some_iff.1 c1).1
      have hkf : k < 65536 := (HW.out.full _ (List.mem_of_getElem? c1)).1
      have e : decide (low.map (k * 65536 + ·) ++ nums (ps.drop (pos + 1)) ≠ []) = true := by simp [c3]
      rw [e] at C1
      have hs2 := Hs2.out
      have hr1 := (List.pairwise_append.1 hs2).1
      have hr2 := (List.pairwise_append.1 hs2).2.1
      have hr3 := (List.pairwise_append.1 hs2).2.2
      obtain ⟨ka, hka⟩ : ∃ ka, ka = k * 65536 := ⟨_, rfl⟩
      rw [← hka] at b1
      have hto := Hto.out
      clear e
      by_cases hc : k < m / 65536
      · have i1 : (ka : Int) < (tw : Int) := by omega
        have HF := Lib.hid (show frm m (nums (ps.drop (pos + 1))) = frm m l by
          rw [← He2.out, frm_append, frm_low c4 hc, List.nil_append])
        have HR2 := Lib.hid hr2
        have II := Lib.hid (fun (W : World) (kk : Mild wr W) => iiInit_any H I p (pos + 1) ps (W.setCell ⟨I, 0, none⟩ (.int .i64 ((pos : Int) + 1))) (cs2.set 0 (.int .i64 ((pos : Int) + 1))) ((It2.out.blk.kept kk id).set 0 _) (by rw [List.length_set]; exact It2.out.len) (by rw [List.getElem?_set_self (by rw [It2.out.len]; decide)]; exact some_eq (int_eq (by omega))) (by rw [List.getElem?_set_ne (by omega)]; exact It2.out.set)
          ((W2.out.kept kk (fun _ _ => id)).kept (Kept.one W I 0 _) (fun b hb h => by omega)) hI (by omega))
        clear hs2 hr1 hr2 hr3 c1 c2 c3 c4 c5 hto hka a0
        go_wp2_with (first
          | (go_at_call 78; (with_reducible refine (C1.out _ (Kept.refl _ _)).mono ?_); rintro ed w2 ⟨rfl, k2⟩; have K2 := Lib.hid k2; have g0 := k2.cell2 id b0; have g1 := k2.cell2 id b1; have g2 := (It2.out.blk.kept k2 id).free 0; clear k2)
          | (go_at_call 26; (with_reducible refine (II.out _ K2.out).mono ?_); rintro ed w5 ⟨rfl, k5, cs5, it5⟩; have K5 := Lib.hid k5; have It5 := Lib.hid it5; clear k5 it5)
          | fail)
        go_roundw
        case rel => exact ⟨cs5, _, It5, HR2, HF, Lib.hid ((Kept.setCell (S := fun k => k = I) (p := ⟨I, 0, none⟩) (K0.out.trans (K2.out.mono (fun _ _ => False.elim))) (fun _ => rfl) _).trans K5.out)⟩
        case measure =>
          have := It5.out.pos_ge HK.out.1 HK.out.2 (by omega)
          rw [hpo]
          omega
      · by_cases hq : k = m / 65536
        · obtain ⟨tt, o, fa, fh, Lk, f2, fl, LF⟩ := low_face hI c5
          have i1 : ¬ (ka : Int) < (tw : Int) := by omega
          have i2 : ((ka : Int) == (tw : Int)) = true := by rw [beq_iff_eq]; omega
          have i3 : (ka : Int) = (tw : Int) := by omega
          have b2 := (It2.out.blk.cell 2).trans f2
          have n1 := LF.a1
          have n2 := LF.a2
          have n3 := LF.a3
          have n4 := LF.h1
          have n5 := LF.h2
          have n6 := LF.h3
          have hrs := rest_ge HK.out.1 c1
          have hfr : frm m (low.map (k * 65536 + ·) ++ nums (ps.drop (pos + 1))) = (frm lo low).map (k * 65536 + ·) ++ nums (ps.drop (pos + 1)) := by
            rw [frm_append, frm_map low hq, ← Hlo.out, frm_all (l := nums (ps.drop (pos + 1))) (fun x hx => by have := hrs x hx; omega)]
          have hfb : ∀ y ∈ frm lo low, y < 65536 := fun y hy => c4 y (frm_mem.1 hy).1
          have ADV := Lib.hid (fun (W : World) (kk : Mild wr W) => LF.adv lo cs2 low W (It2.out.blk.kept kk id) (LF.mild _ _ _ _ fl kk) (W2.out.kept kk (fun _ _ => id)).tab (map_rising hr1) c3 hlo2 c4)
          have HAS := Lib.hid (fun (cs5 : List Value) (W : World) (h1 : Blk W I IIty cs5) (h2 : Lk W cs5 (frm lo low)) => LF.has cs5 _ W h1 h2)
          have BK := Lib.hid (fun (cs5 : List Value) (W : World) (l5 : List Nat) (h0 : cs5[2]? = some (.iface tt (.pointer (some ⟨I, o, none⟩)))) (h : Lk W cs5 l5) => LF.back W cs5 l5 h0 h)
          have MI := Lib.hid (fun (cs5 : List Value) (l5 : List Nat) (W W' : World) (h : Lk W cs5 l5) (kk : Mild W W') => LF.mild cs5 l5 W W' h kk)
          have HFR := Lib.hid hfr
          have HFB := Lib.hid hfb
          have HC := Lib.hid (And.intro c1 (And.intro c2 (And.intro a0 It2.out.set)))
          have HF2 := Lib.hid f2
          have HKA := Lib.hid hka
          clear hrs hfr hfb hs2 hr1 hr2 hr3 c1 c2 c3 c4 c5 a0 f2 LF hka fl hto
          generalize frm lo low = low2 at *
          go_wp2_with (first
            | (go_at_call 78; (with_reducible refine (C1.out _ (Kept.refl _ _)).mono ?_); rintro ed w2 ⟨rfl, k2⟩; have K2 := Lib.hid k2; have g1 := k2.cell2 id b1; clear k2)
            | (go_at_call 78; (with_reducible refine (C1.out _ K2.out).mono ?_); rintro ed w3 ⟨rfl, k3⟩; have K3 := Lib.hid (K2.out.trans k3); have g2 := K3.out.cell2 id b1; have g3 := K3.out.cell2 id b2; clear k3)
            | fail)
          go_region_held3 (fun w' => w'.cell? ⟨I, 2, none⟩ = some (.iface tt (.pointer (some ⟨I, o, none⟩)))) (first | exact (t1.cell 2).trans ((take4 t3 2 (by omega)).trans HF2.out) | exact K3.out.drew.cell2 id b2) (first
            | (go_at_call 19; (with_reducible refine (CL.out _).mono ?_); rintro ed w4 ⟨rfl, rfl⟩)
            | ((with_reducible refine (ADV.out _ K3.out.drew).mono ?_); rintro ed w5 ⟨rfl, cs5, t1, t2, t3, t4, t5⟩)
            | fail)
          all_goals
            have hb5 := t1
            have z2 := (take4 t3 2 (by omega)).trans HF2.out
            have z0 := (take4 t3 0 (by omega)).trans HC.out.2.2.1
            have z1 := (take4 t3 1 (by omega)).trans HC.out.2.1
            have z3 := (take4 t3 3 (by omega)).trans HC.out.2.2.2
            have y2 := (t1.cell 2).trans z2
            have y0 := (t1.cell 0).trans z0
            have yf := t1.free 0
            have HA := Lib.hid (HAS.out cs5 w5 t1 t4)
            have HT := Lib.hid (And.intro t1 (And.intro t2 (And.intro t4 t5)))
            have HZ := Lib.hid (And.intro z0 (And.intro z1 (And.intro z2 z3)))
            have K5 : Hid (Kept (fun k => k = I) w w5) := Lib.hid ((K0.out.trans (K3.out.drew.mono (fun _ _ => False.elim))).trans t5)
            clear t1 t2 t3 t4 t5 hb5 z0 z1 z2 z3
            rcases low2 with _ | ⟨y9, low2⟩
            · have e : decide (([] : List Nat) ≠ []) = false := by simp
              rw [e] at HA
              have II := Lib.hid (fun (W : World) (kk : Mild w5 W) => iiInit_any H I p (pos + 1) ps (W.setCell ⟨I, 0, none⟩ (.int .i64 ((pos : Int) + 1))) (cs5.set 0 (.int .i64 ((pos : Int) + 1))) ((HT.out.1.kept kk id).set 0 _) (by rw [List.length_set, HT.out.2.1]; exact It2.out.len) (by rw [List.getElem?_set_self (by rw [HT.out.2.1, It2.out.len]; decide)]; exact some_eq (int_eq (by omega))) (by rw [List.getElem?_set_ne (by omega)]; exact HZ.out.2.2.2)
                (((HW.out.kept K5.out (fun b hb h => by omega)).kept kk (fun _ _ => id)).kept (Kept.one W I 0 _) (fun b hb h => by omega)) hI (by omega))
              go_wp2_with (first
                | ((with_reducible refine HA.out.mono ?_); rintro ed w6 ⟨rfl, k6⟩; have K6 := Lib.hid k6; have x0 := k6.cell2 id y0; have xf := (HT.out.1.kept k6 id).free 0; clear k6)
                | (go_at_call 26; (with_reducible refine (II.out _ K6.out).mono ?_); rintro ed w7 ⟨rfl, k7, cs7, it7⟩; have K7 := Lib.hid k7; have It7 := Lib.hid it7; clear k7 it7)
                | fail)
              go_end0
              refine ⟨rfl, (Kept.setCell (S := fun k => k = I) (p := ⟨I, 0, none⟩) (K5.out.trans (K6.out.mono (fun _ _ => False.elim))) (fun _ => rfl) _).trans K7.out, cs7, ?_⟩
              rw [← He2.out, HFR.out]
              exact It7.out
            · have e : decide ((y9 :: low2) ≠ []) = true := by simp
              rw [e] at HA
              go_wp2_with (first
                | ((with_reducible refine HA.out.mono ?_); rintro ed w6 ⟨rfl, k6⟩; have K6 := Lib.hid k6; clear k6)
                | fail)
              go_end0
              refine ⟨rfl, K5.out.trans (K6.out.mono (fun _ _ => False.elim)), cs5, ?_⟩
              rw [← He2.out, HFR.out]
              exact ⟨by rw [HT.out.2.1]; exact It2.out.len, HT.out.1.kept K6.out id, HZ.out.2.2.2, pos, HZ.out.1, by omega, .inr ⟨k, ls, y9 :: low2, HC.out.1, HZ.out.2.1, by simp, HFB.out, BK.out _ _ _ HZ.out.2.2.1 (MI.out _ _ _ _ HT.out.2.2.1 K6.out), rfl⟩⟩
        · have i1 : ¬ (ka : Int) < (tw : Int) := by omega
          have i2 : ((ka : Int) == (tw : Int)) = false := by rw [beq_eq_false_iff_ne]; omega
          have i3 : ¬ (ka : Int) = (tw : Int) := by omega
          have HF := Lib.hid (show frm m (low.map (k * 65536 + ·) ++ nums (ps.drop (pos + 1))) = low.map (k * 65536 + ·) ++ nums (ps.drop (pos + 1)) by
            obtain ⟨y, low2, rfl⟩ := List.exists_cons_of_ne_nil c3
            exact frm_head hs2 (by show m ≤ k * 65536 + y; omega))
          clear hs2 hr1 hr2 hr3 c1 c2 c3 c4 c5 hto hka a0
          go_wp2_with (first
            | (go_at_call 78; (with_reducible refine (C1.out _ (Kept.refl _ _)).mono ?_); rintro ed w2 ⟨rfl, k2⟩; have K2 := Lib.hid k2; have g1 := k2.cell2 id b1; clear k2)
            | (go_at_call 78; (with_reducible refine (C1.out _ K2.out).mono ?_); rintro ed w3 ⟨rfl, k3⟩; have K3 := Lib.hid (K2.out.trans k3); have g2 := K3.out.cell2 id b1; clear k3)
            | fail)
          go_end0
          exact ⟨rfl, K0.out.trans (K3.out.mono (fun _ _ => False.elim)), cs2, by rw [← He2.out, HF.out]; exact It2.out.kept K3.out (fun _ _ => id) id⟩
end Go.Proofs
