/-
  runContainer16.union: the runs of two containers melted to one list, for any two.
-/
import Derived.Test.YtjjijipfhnoomaaGreatDoorJRsb
import Derived.Test.YtjjijipfhnoomaaGreatDoorKUni
namespace Go.Roar
open Go.RowKit Go.Proofs
noncomputable def usN (v : Value) : Nat := open Classical in if v = .bool true then 1 else 0
theorem usN_true : usN (.bool true) = 1 := by unfold usN; rw [if_pos rfl]
theorem usN_false : usN (.bool false) = 0 := by unfold usN; rw [if_neg (by simp)]
/-- Where the first loop stands. -/
def UB (w wr : World) (H : Nat) (a b : List (Nat × Nat)) (v us : Value) (i j : Nat) : Prop :=
  ∃ (m : List (Nat × Nat)) (A B C D x l : Int),
    (us = .bool false ∧ UN a b i j m ∧ SS w [] wr (UL H v m A B C D x l)) ∨
     ∃ X Y : Nat, us = .bool true ∧ UG a b i j X Y m ∧ SS w [] wr (UL H v m A B C D (X : Int) ((Y - X : Nat) : Int))
/-- Where a run still grows. -/
def UR (w wr : World) (H : Nat) (a b : List (Nat × Nat)) (v : Value) (i j : Nat) : Prop :=
  ∃ (m : List (Nat × Nat)) (A B C D : Int) (X Y : Nat), UG a b i j X Y m ∧ SS w [] wr (UL H v m A B C D (X : Int) ((Y - X : Nat) : Int))
end Go.Roar
namespace Go.Proofs
open Go.RowKit Go.Roar

/-- What union answers. -/
def UniP (a b : List (Nat × Nat)) (w : World) (ed : Ending) (w' : World) : Prop := ∃ z v m, ed = .returned (.pointer (some ⟨z, 0, none⟩)) ∧ RgOK 65536 m ∧ (∀ x, inR m x ↔ inR a x ∨ inR b x) ∧ SS w [] w' (RC z v m)

set_option maxRecDepth 100000 in
set_option maxHeartbeats 8000000 in
theorem unionB_any (p q : Nat) (a b : List (Nat × Nat)) (w : World) (hR : RCV w p a) (hQ : RCV w q b) (ha : RgOK 65536 a) (hb : RgOK 65536 b) (ha0 : 0 < a.length) (hb0 : 0 < b.length) :
    Calls Tryz.prog 225 #[.pointer (some ⟨p, 0, none⟩), .pointer (some ⟨q, 0, none⟩)] w fun ed w' => UniP a b w ed w' := by
  obtain ⟨iU, v1, v2, v3, v4⟩ := info_parts infoIv
  have hal := ha.many
  have hbl := hb.many
  have HR := Lib.hid hR
  have HQ := Lib.hid hQ
  have Ha := Lib.hid ha
  have Hb := Lib.hid hb
  obtain ⟨gp, cp, hcpl, cp0, hcp⟩ := hR
  obtain ⟨gq, cq, hcql, cq0, hcq⟩ := hQ
  have Hcp := Lib.hid hcp
  have Hcq := Lib.hid hcq
  clear ha hb hcp hcq
  have S0 : SS w [] (((w.alloc (.cells #[.int .u16 (0 : Int), .int .u16 (0 : Int)] 114)).alloc (.cells #[.int .u16 (0 : Int), .int .u16 (0 : Int)] 114)).alloc (.cells #[.int .u16 (0 : Int), .int .u16 (0 : Int)] 114)) (UL w.heap.size (.slice none 0 0) [] 0 0 0 0 0 0) := by
    have := (((SS.nothing w).new 114 [.int .u16 (0 : Int), .int .u16 (0 : Int)]).new 114 [.int .u16 (0 : Int), .int .u16 (0 : Int)]).new 114 [.int .u16 (0 : Int), .int .u16 (0 : Int)]
    simp only [World.size_alloc] at this
    exact this.join (SS.bare _ 2 114)
  have HS0 := Lib.hid S0
  clear S0
  obtain ⟨na, hna⟩ : ∃ n, n = a.length := ⟨_, rfl⟩
  obtain ⟨nb, hnb⟩ : ∃ n, n = b.length := ⟨_, rfl⟩
  rw [← hna] at ha0 hal cp0 hcpl
  rw [← hnb] at hb0 hbl cq0 hcql
  have HNA := Lib.hid hna
  have HNB := Lib.hid hnb
  clear hna hnb
  go_enter Tryz.func225, Tryz.ntmps225
  go_wp2
  generalize hH : w.heap.size = H at *
  have HH := Lib.hid hH
  clear hH
  go_loopw [8, 9, 11, 5, 14] (fun sa sb us v ps wr => (∃ Z : Int, ps = .int .i64 Z) ∧ ∃ (i j : Nat), sa = .int .i64 (i : Int) ∧ sb = .int .i64 (j : Int) ∧ i ≤ na ∧ j ≤ nb ∧ Hid (UB w wr H a b v us i j)) (fun sa sb us _ _ _ => 2 * (na - (intOf sa).toNat) + 2 * (nb - (intOf sb).toNat) + usN us)
  case atStart => exact ⟨⟨0, rfl⟩, 0, 0, rfl, rfl, Nat.zero_le _, Nat.zero_le _, Lib.hid ⟨[], 0, 0, 0, 0, 0, 0, .inl ⟨rfl, UN.start a b, HS0.out⟩⟩⟩
  case round =>
    obtain ⟨⟨Z, rfl⟩, i, j, rfl, rfl, hi, hj, hrel⟩ := hrel
    clear HS0
    by_cases hij : i < na ∧ j < nb
    · obtain ⟨hi2, hj2⟩ := hij
      have j1 : (i : Int) < (na : Int) := by omega
      have j2 : (j : Int) < (nb : Int) := by omega
      obtain ⟨r, hx⟩ : ∃ r, a[i]? = some r := ⟨_, List.getElem?_eq_getElem (by rw [← HNA.out]; exact hi2)⟩
      obtain ⟨v, hv⟩ : ∃ r, b[j]? = some r := ⟨_, List.getElem?_eq_getElem (by rw [← HNB.out]; exact hj2)⟩
      have hr1 := rg_at Ha.out hx
      have hr2 := rg_at Hb.out hv
      have Hx := Lib.hid hx
      have Hv := Lib.hid hv
      obtain ⟨a8, a9⟩ := Hcp.out i r hx
      obtain ⟨b8, b9⟩ := Hcq.out j v hv
      clear hx hv
      obtain ⟨m, A, B', C, D, x, l, ⟨rfl, hM, hS⟩ | ⟨X, Y, rfl, hM, hS⟩⟩ := hrel.out
      · have HS := Lib.hid hS
        have HM := Lib.hid hM
        have hml := hM.ok.many
        have km := hS.mild
        have a0 := km.cell2 id cp0
        have a1 := km.cell2 id a8
        have a2 := km.cell2 id a9
        have b0 := km.cell2 id cq0
        have b1 := km.cell2 id b8
        have b2 := km.cell2 id b9
        clear hrel hS km
        obtain ⟨-, ⟨c1, c2⟩, -⟩ := UL.cells HS.out
        obtain ⟨-, ⟨f1, f2⟩, -⟩ := UL.free HS.out
        go_upto_region 14 with fail
        have S1 := Lib.hid (UL.setA HS.out (r.1 : Int) ((r.2 - r.1 : Nat) : Int))
        clear b0 b1 b2 a0 a1 a2 c1 c2 f1 f2
        generalize ((wr.setCell ⟨H + 1, 0, none⟩ (.int .u16 (r.1 : Int))).setCell ⟨H + 1, 1, none⟩ (.int .u16 ((r.2 - r.1 : Nat) : Int))) = w1 at *
        have km := S1.out.mild
        have b0 := km.cell2 id cq0
        have b1 := km.cell2 id b8
        have b2 := km.cell2 id b9
        obtain ⟨-, -, c1, c2⟩ := UL.cells S1.out
        obtain ⟨-, -, f1, f2⟩ := UL.free S1.out
        go_upto_region 15 with fail
        have S2 := Lib.hid (UL.setC S1.out (v.1 : Int) ((v.2 - v.1 : Nat) : Int))
        clear b0 b1 b2 c1 c2 f1 f2 km S1
        generalize ((w1.setCell ⟨H + 1 + 1, 0, none⟩ (.int .u16 (v.1 : Int))).setCell ⟨H + 1 + 1, 1, none⟩ (.int .u16 ((v.2 - v.1 : Nat) : Int))) = w2 at *
        clear HS
        have CM := Lib.hid (fun (b : Bool) (W : World) (hb : b = decide (v.1 ≤ r.2 + 1 ∧ r.1 ≤ v.2 + 1)) => canMerge_r r v b W hr1 hr2 hb)
        have MM := Lib.hid (fun (W : World) (h : v.1 ≤ r.2 + 1 ∧ r.1 ≤ v.2 + 1) => merge_r r v W hr1 hr2 h)
        clear hM
        obtain ⟨-, ⟨a1, a2⟩, b1, b2⟩ := UL.cells S2.out
        go_upto_region 28 with fail
        by_cases hm : v.1 ≤ r.2 + 1 ∧ r.1 ≤ v.2 + 1
        · obtain ⟨X, hX⟩ : ∃ X, X = Nat.min r.1 v.1 := ⟨_, rfl⟩
          obtain ⟨Y, hY⟩ : ∃ Y, Y = Nat.max r.2 v.2 := ⟨_, rfl⟩
          have m1 : X ≤ v.1 := by rw [hX]; exact Nat.min_le_right _ _
          have m2 : v.2 ≤ Y := by rw [hY]; exact Nat.le_max_right _ _
          have m3 : Y < 65536 := by rw [hY]; exact Nat.max_lt.2 ⟨hr1.2, hr2.2⟩
          have m4 : r.2 ≤ Y := by rw [hY]; exact Nat.le_max_left _ _
          have MM2 := Lib.hid (fun (W : World) => MM.out W hm)
          try simp only at MM2
          rw [← hX, ← hY] at MM2
          have LX := Lib.hid (fun (W : World) => last_r (X, Y) W ⟨show X ≤ Y by omega, m3⟩)
          try simp only at LX
          have IA := Lib.hid (fun (K T : Int) (W : World) (hK : K = ((Y + 1 : Nat) : Int)) (hT : T = ((i + 1 : Nat) : Int)) (km : Mild w W) => indexAfter_int p a (Y + 1) (i + 1) K T W hK hT (HR.out.mild km) Ha.out (by rw [← HNA.out]; exact ha0) (by omega) (by rw [← HNA.out]; omega) (by rw [← HNA.out]; omega) (fun q _ hq => by rw [show i + 1 - 1 = i by omega, Hx.out] at hq; simp at hq; subst hq; omega))
          have IB := Lib.hid (fun (K T : Int) (W : World) (hK : K = ((Y + 1 : Nat) : Int)) (hT : T = ((j + 1 : Nat) : Int)) (km : Mild w W) => indexAfter_int q b (Y + 1) (j + 1) K T W hK hT (HQ.out.mild km) Hb.out (by rw [← HNB.out]; exact hb0) (by omega) (by rw [← HNB.out]; omega) (by rw [← HNB.out]; omega) (fun q _ hq => by rw [show j + 1 - 1 = j by omega, Hv.out] at hq; simp at hq; subst hq; omega))
          have HX := Lib.hid hX
          have HY := Lib.hid hY
          clear CM MM hX hY
          go_upto_region 34 with (first
            | (go_at_call 230; (with_reducible refine (canMerge_r r v true _ hr1 hr2 (decide_eq_true hm).symm).mono ?_); rintro ed w3 ⟨rfl, k3⟩; have S3 := Lib.hid (S2.out.quiet k3); clear a1 a2 b1 b2; obtain ⟨-, ⟨a1, a2⟩, b1, b2⟩ := UL.cells S3.out)
            | fail)
          go_upto_region 35 with (first
            | (go_at_call 231; (with_reducible refine (MM2.out _).mono ?_); rintro ed w4 ⟨rfl, k4⟩; have S4 := Lib.hid (S3.out.quiet k4); clear a1 a2 b1 b2; obtain ⟨⟨x1, x2⟩, -, -⟩ := UL.cells S4.out; obtain ⟨⟨f1, f2⟩, -, -⟩ := UL.free S4.out)
            | fail)
          have S5 := Lib.hid (UL.setX S4.out (X : Int) ((Y - X : Nat) : Int))
          clear x1 x2 f1 f2 S2 S3
          generalize ((w4.setCell ⟨H, 0, none⟩ (.int .u16 (X : Int))).setCell ⟨H, 1, none⟩ (.int .u16 ((Y - X : Nat) : Int))) = w5 at *
          obtain ⟨⟨x1, x2⟩, -, -⟩ := UL.cells S5.out
          go_upto_region 37 with (first
            | (go_at_call 68; (with_reducible refine (LX.out _).mono ?_); rintro ed w6 ⟨rfl, k6⟩; clear x1 x2; have S6 := Lib.hid (S5.out.quiet k6))
            | (go_at_call 232; (with_reducible refine (IA.out _ _ _ (by omega) (by omega) (S5.out.mild.trans k6)).mono ?_); rintro ed w7 ⟨j7, rfl, hsp7, k7⟩; have S7 := Lib.hid (S6.out.quiet k7))
            | fail)
          obtain ⟨⟨x1, x2⟩, -, -⟩ := UL.cells S7.out
          go_wp2_with (first
            | (go_at_call 68; (with_reducible refine (LX.out _).mono ?_); rintro ed w8 ⟨rfl, k8⟩; clear x1 x2; have S8 := Lib.hid (S7.out.quiet k8))
            | (go_at_call 232; (with_reducible refine (IB.out _ _ _ (by omega) (by omega) (S7.out.mild.trans k8)).mono ?_); rintro ed w9 ⟨j9, rfl, hsp9, k9⟩; have S9 := Lib.hid (S8.out.quiet k9))
            | fail)
          have g7 := hsp7.1
          have g9 := hsp9.1
          have g72 := hsp7.2.1
          have g92 := hsp9.2.1
          rw [← HNA.out] at g72
          rw [← HNB.out] at g92
          go_roundw
          case rel =>
            have hG := HM.out.grow Ha.out Hb.out Hx.out Hv.out hm.1 hm.2 (k := j7) (l := j9) (by rw [HY.out] at hsp7; exact hsp7) (by rw [HY.out] at hsp9; exact hsp9)
            refine ⟨⟨_, rfl⟩, j7, j9, rfl, rfl, g72, g92, Lib.hid ⟨m, _, _, _, _, 0, 0, .inr ⟨X, Y, rfl, ?_, S9.out⟩⟩⟩
            rw [HX.out, HY.out]
            exact hG
          case measure => rw [usN_true]; simp only [intOf, usN_false]; omega
        · by_cases hlt2 : r.1 < v.1
          · have hrv : r.2 + 1 < v.1 := by omega
            have HN2 := Lib.hid (HM.out.one Ha.out Hx.out (fun z hz => by rw [Hv.out] at hz; cases hz; exact hrv))
            go_upto_region 30 with (first
              | (go_at_call 230; (with_reducible refine (CM.out false _ (decide_eq_false hm).symm).mono ?_); rintro ed w3 ⟨rfl, k3⟩; have S3 := Lib.hid (S2.out.quiet k3); clear a1 a2 b1 b2 S2; obtain ⟨-, ⟨a1, a2⟩, b1, b2⟩ := UL.cells S3.out)
              | fail)
            go_wp2_with (first
              | (at_builtin; refine wpList_append_ss rfl (.tmp 97) (.tmp 99) 110 rfl 114 iU (.agg #[.int .u16 (0 : Int), .int .u16 (0 : Int)]) 2 4 undIvs v1 v2 v3 v4 rfl (by decide) w [] [] _ _ _ _ rfl (SS.alloc S3.out _) ⟨w3.heap.size, 0, none⟩ 1 1 [.int .u16 (r.1 : Int), .int .u16 ((r.2 - r.1 : Nat) : Int)] rfl rfl (Blk.news (Blk.new _ _ _)) (by simp [Value.oneCell']) (by unfold maxLen; omega) (by omega) ?_; intro va wa Sa; have SP := Lib.hid (UL.push (r := r) Sa); clear Sa)
              | fail)
            go_roundw
            case rel => exact ⟨⟨_, rfl⟩, i + 1, j, by go_num, rfl, by omega, hj, Lib.hid ⟨_, _, _, _, _, _, _, .inl ⟨rfl, HN2.out, SP.out⟩⟩⟩
            case measure => simp only [intOf, usN_false]; omega
          · have hrv : v.2 + 1 < r.1 := by omega
            have HN2 := Lib.hid (HM.out.swap.one Hb.out Hv.out (fun z hz => by rw [Hx.out] at hz; cases hz; exact hrv)).swap
            go_upto_region 32 with (first
              | (go_at_call 230; (with_reducible refine (CM.out false _ (decide_eq_false hm).symm).mono ?_); rintro ed w3 ⟨rfl, k3⟩; have S3 := Lib.hid (S2.out.quiet k3); clear a1 a2 b1 b2 S2; obtain ⟨-, ⟨a1, a2⟩, b1, b2⟩ := UL.cells S3.out)
              | fail)
            go_wp2_with (first
              | (at_builtin; refine wpList_append_ss rfl (.tmp 103) (.tmp 105) 110 rfl 114 iU (.agg #[.int .u16 (0 : Int), .int .u16 (0 : Int)]) 2 4 undIvs v1 v2 v3 v4 rfl (by decide) w [] [] _ _ _ _ rfl (SS.alloc S3.out _) ⟨w3.heap.size, 0, none⟩ 1 1 [.int .u16 (v.1 : Int), .int .u16 ((v.2 - v.1 : Nat) : Int)] rfl rfl (Blk.news (Blk.new _ _ _)) (by simp [Value.oneCell']) (by unfold maxLen; omega) (by omega) ?_; intro va wa Sa; have SP := Lib.hid (UL.push (r := v) Sa); clear Sa)
              | fail)
            go_roundw
            case rel => exact ⟨⟨_, rfl⟩, i, j + 1, rfl, by go_num, hi, by omega, Lib.hid ⟨_, _, _, _, _, _, _, .inl ⟨rfl, HN2.out, SP.out⟩⟩⟩
            case measure => simp only [intOf, usN_false]; omega
      · have HS := Lib.hid hS
        have HM := Lib.hid hM
        have hml := hM.ok.many
        have km := hS.mild
        have a0 := km.cell2 id cp0
        have a1 := km.cell2 id a8
        have a2 := km.cell2 id a9
        have b0 := km.cell2 id cq0
        have b1 := km.cell2 id b8
        have b2 := km.cell2 id b9
        clear hrel hS km
        obtain ⟨-, ⟨c1, c2⟩, -⟩ := UL.cells HS.out
        obtain ⟨-, ⟨f1, f2⟩, -⟩ := UL.free HS.out
        go_upto_region 14 with fail
        have S1 := Lib.hid (UL.setA HS.out (r.1 : Int) ((r.2 - r.1 : Nat) : Int))
        clear b0 b1 b2 a0 a1 a2 c1 c2 f1 f2
        generalize ((wr.setCell ⟨H + 1, 0, none⟩ (.int .u16 (r.1 : Int))).setCell ⟨H + 1, 1, none⟩ (.int .u16 ((r.2 - r.1 : Nat) : Int))) = w1 at *
        have km := S1.out.mild
        have b0 := km.cell2 id cq0
        have b1 := km.cell2 id b8
        have b2 := km.cell2 id b9
        obtain ⟨-, -, c1, c2⟩ := UL.cells S1.out
        obtain ⟨-, -, f1, f2⟩ := UL.free S1.out
        go_upto_region 15 with fail
        have S2 := Lib.hid (UL.setC S1.out (v.1 : Int) ((v.2 - v.1 : Nat) : Int))
        clear b0 b1 b2 c1 c2 f1 f2 km S1
        generalize ((w1.setCell ⟨H + 1 + 1, 0, none⟩ (.int .u16 (v.1 : Int))).setCell ⟨H + 1 + 1, 1, none⟩ (.int .u16 ((v.2 - v.1 : Nat) : Int))) = w2 at *
        clear HS
        have hga := hM.ga r Hx.out
        have hgb := hM.gb v Hv.out
        have hpt := hM.pt
        clear hM
        obtain ⟨⟨x1, x2⟩, ⟨a1, a2⟩, -⟩ := UL.cells S2.out
        obtain ⟨bb, hbb⟩ : ∃ bb, bb = decide (X ≤ r.2 + 1 ∧ r.1 ≤ Y + 1) := ⟨_, rfl⟩
        have CA := Lib.hid (fun (W : World) => show Calls Tryz.prog 230 #[.agg #[.int .u16 (r.1 : Int), .int .u16 ((r.2 - r.1 : Nat) : Int)], .agg #[.int .u16 (X : Int), .int .u16 ((Y - X : Nat) : Int)]] W fun ed w' => ed = .returned (.bool bb) ∧ Mild W w' from canMerge_r r (X, Y) bb W hr1 hpt hbb)
        have HBB := Lib.hid hbb
        clear hbb
        go_upto_if 56 with (first
          | (go_at_call 230; (with_reducible refine (CA.out _).mono ?_); rintro ed w3 ⟨rfl, k3⟩; have S3 := Lib.hid (S2.out.quiet k3); clear a1 a2 x1 x2 k3)
          | fail)
        clear S2 CA
        go_cut [8, 15] (fun s8 s15 wx => ∃ (k : Nat) (uf : Bool) (Y1 : Nat), s8 = .int .i64 (k : Int) ∧ s15 = .bool uf ∧ Hid (UG a b k j X Y1 m) ∧ i ≤ k ∧ k ≤ na ∧ Hid (uf = true → i < k) ∧ Hid (uf = false → k = i ∧ Y1 = Y ∧ Y + 1 < r.1) ∧ Hid (SS w [] wx (UL H u5 m (r.1 : Int) ((r.2 - r.1 : Nat) : Int) (v.1 : Int) ((v.2 - v.1 : Nat) : Int) (X : Int) ((Y1 - X : Nat) : Int))))
        case first =>
          as_aux_lemma =>
            cases bb
            · have hbt := of_decide_eq_false HBB.out.symm
              go_wp2_with fail
              go_meet
              case rel => exact ⟨i, false, Y, rfl, rfl, HM, Nat.le_refl _, by omega, Lib.hid (fun h => by cases h), Lib.hid (fun _ => ⟨rfl, rfl, by omega⟩), S3⟩
            · obtain ⟨Y1, hY1⟩ : ∃ z, z = max Y r.2 := ⟨_, rfl⟩
              have hbt := of_decide_eq_true HBB.out.symm
              have hHM := Lib.hid (fun (k : Nat) (hk : Spot16 a (i + 1) (Y1 + 1) k) => show UG a b k j X Y1 m from by rw [hY1] at hk ⊢; exact HM.out.joinA Ha.out Hx.out hbt.2 hk)
              have m2 : Y ≤ Y1 := by omega
              have m4 : r.2 ≤ Y1 := by omega
              have m3 : Y1 < 65536 := by omega
              have MM2 := Lib.hid (fun (W : World) => show Calls Tryz.prog 231 #[.agg #[.int .u16 (r.1 : Int), .int .u16 ((r.2 - r.1 : Nat) : Int)], .agg #[.int .u16 (X : Int), .int .u16 ((Y - X : Nat) : Int)]] W fun ed w' => ed = .returned (.agg #[.int .u16 (X : Int), .int .u16 ((Y1 - X : Nat) : Int)]) ∧ Mild W w' from by
                have := merge_r r (X, Y) W hr1 hpt hbt
                rw [show Nat.min r.1 (X, Y).1 = X from Nat.min_eq_right hga, show Nat.max r.2 (X, Y).2 = Y1 from by rw [hY1]; exact Nat.max_comm _ _] at this
                exact this)
              have LX := Lib.hid (fun (W : World) => show Calls Tryz.prog 68 #[.agg #[.int .u16 (X : Int), .int .u16 ((Y1 - X : Nat) : Int)]] W fun ed w' => ed = .returned (.int .u16 (Y1 : Int)) ∧ Mild W w' from last_r (X, Y1) W ⟨show X ≤ Y1 by omega, m3⟩)
              have IA := Lib.hid (fun (K T : Int) (W : World) (hK : K = ((Y1 + 1 : Nat) : Int)) (hT : T = ((i + 1 : Nat) : Int)) (km : Mild w W) => indexAfter_int p a (Y1 + 1) (i + 1) K T W hK hT (HR.out.mild km) Ha.out (by rw [← HNA.out]; exact ha0) (by omega) (by rw [← HNA.out]; omega) (by rw [← HNA.out]; omega) (fun q _ hq => by rw [show i + 1 - 1 = i by omega, Hx.out] at hq; simp at hq; subst hq; omega))
              obtain ⟨⟨x1, x2⟩, ⟨a1, a2⟩, -⟩ := UL.cells S3.out
              clear hY1 hbt
              go_upto_region 19 with (first
                | (go_at_call 231; (with_reducible refine (MM2.out _).mono ?_); rintro ed w4 ⟨rfl, k4⟩; have S4 := Lib.hid (S3.out.quiet k4); clear a1 a2 x1 x2; obtain ⟨⟨x1, x2⟩, -, -⟩ := UL.cells S4.out; obtain ⟨⟨f1, f2⟩, -, -⟩ := UL.free S4.out)
                | fail)
              have S5 := Lib.hid (UL.setX S4.out (X : Int) ((Y1 - X : Nat) : Int))
              clear x1 x2 f1 f2 S3
              generalize ((w4.setCell ⟨H, 0, none⟩ (.int .u16 (X : Int))).setCell ⟨H, 1, none⟩ (.int .u16 ((Y1 - X : Nat) : Int))) = w5 at *
              obtain ⟨⟨x1, x2⟩, -, -⟩ := UL.cells S5.out
              go_wp2_with (first
                | (go_at_call 68; (with_reducible refine (LX.out _).mono ?_); rintro ed w6 ⟨rfl, k6⟩; clear x1 x2; have S6 := Lib.hid (S5.out.quiet k6))
                | (go_at_call 232; (with_reducible refine (IA.out _ _ _ (by omega) (by omega) (S5.out.mild.trans k6)).mono ?_); rintro ed w7 ⟨j7, rfl, hsp7, k7⟩; have S7 := Lib.hid (S6.out.quiet k7))
                | fail)
              have g7 := hsp7.1
              have g72 := hsp7.2.1
              rw [← HNA.out] at g72
              go_meet
              case rel => exact ⟨j7, true, Y1, rfl, rfl, Lib.hid (hHM.out j7 hsp7), by omega, g72, Lib.hid (fun _ => by omega), Lib.hid (fun h => by cases h), S7⟩
        case rest =>
          obtain ⟨k, uf, Y1, rfl, rfl, HG, hk1, hk2, HU1, HU2, HS3⟩ := hcut
          have hpt1 := HG.out.pt
          clear HM S3 HBB bb hpt
          obtain ⟨⟨x1, x2⟩, -, b1, b2⟩ := UL.cells HS3.out
          obtain ⟨bb, hbb⟩ : ∃ bb, bb = decide (X ≤ v.2 + 1 ∧ v.1 ≤ Y1 + 1) := ⟨_, rfl⟩
          have CA := Lib.hid (fun (W : World) => show Calls Tryz.prog 230 #[.agg #[.int .u16 (v.1 : Int), .int .u16 ((v.2 - v.1 : Nat) : Int)], .agg #[.int .u16 (X : Int), .int .u16 ((Y1 - X : Nat) : Int)]] W fun ed w' => ed = .returned (.bool bb) ∧ Mild W w' from canMerge_r v (X, Y1) bb W hr2 hpt1 hbb)
          have HBC := Lib.hid hbb
          clear hbb
          go_upto_if 70 with (first
            | (go_at_call 230; (with_reducible refine (CA.out _).mono ?_); rintro ed w4 ⟨rfl, k3⟩; have S4 := Lib.hid (HS3.out.quiet k3); clear b1 b2 x1 x2 k3)
            | fail)
          clear HS3 CA
          go_cut [9, 15] (fun s9 s15 wx => ∃ (l : Nat) (uf2 : Bool) (Y2 : Nat), s9 = .int .i64 (l : Int) ∧ s15 = .bool uf2 ∧ Hid (UG a b k l X Y2 m) ∧ j ≤ l ∧ l ≤ nb ∧ Hid (uf2 = true → i < k ∨ j < l) ∧ Hid (uf2 = false → k = i ∧ l = j ∧ Y2 = Y ∧ Y + 1 < r.1 ∧ Y + 1 < v.1) ∧ Hid (SS w [] wx (UL H u5 m (r.1 : Int) ((r.2 - r.1 : Nat) : Int) (v.1 : Int) ((v.2 - v.1 : Nat) : Int) (X : Int) ((Y2 - X : Nat) : Int))))
          case first =>
            as_aux_lemma =>
              cases bb
              · have hbt := of_decide_eq_false HBC.out.symm
                go_wp2_with fail
                go_meet
                case rel => exact ⟨j, uf, Y1, rfl, rfl, HG, Nat.le_refl _, by omega, Lib.hid (fun h => .inl (HU1.out h)), Lib.hid (fun h => by obtain ⟨e1, e2, e3⟩ := HU2.out h; exact ⟨e1, rfl, e2, e3, by omega⟩), S4⟩
              · obtain ⟨Y2, hY2⟩ : ∃ z, z = max Y1 v.2 := ⟨_, rfl⟩
                have hbt := of_decide_eq_true HBC.out.symm
                have hHM := Lib.hid (fun (l : Nat) (hk : Spot16 b (j + 1) (Y2 + 1) l) => show UG a b k l X Y2 m from by rw [hY2] at hk ⊢; exact (HG.out.swap.joinA Hb.out Hv.out hbt.2 hk).swap)
                have m2 : Y1 ≤ Y2 := by omega
                have m4 : v.2 ≤ Y2 := by omega
                have m3 : Y2 < 65536 := by omega
                have MM2 := Lib.hid (fun (W : World) => show Calls Tryz.prog 231 #[.agg #[.int .u16 (v.1 : Int), .int .u16 ((v.2 - v.1 : Nat) : Int)], .agg #[.int .u16 (X : Int), .int .u16 ((Y1 - X : Nat) : Int)]] W fun ed w' => ed = .returned (.agg #[.int .u16 (X : Int), .int .u16 ((Y2 - X : Nat) : Int)]) ∧ Mild W w' from by
                  have := merge_r v (X, Y1) W hr2 hpt1 hbt
                  rw [show Nat.min v.1 (X, Y1).1 = X from Nat.min_eq_right hgb, show Nat.max v.2 (X, Y1).2 = Y2 from by rw [hY2]; exact Nat.max_comm _ _] at this
                  exact this)
                have LX := Lib.hid (fun (W : World) => show Calls Tryz.prog 68 #[.agg #[.int .u16 (X : Int), .int .u16 ((Y2 - X : Nat) : Int)]] W fun ed w' => ed = .returned (.int .u16 (Y2 : Int)) ∧ Mild W w' from last_r (X, Y2) W ⟨show X ≤ Y2 by omega, m3⟩)
                have IA := Lib.hid (fun (K T : Int) (W : World) (hK : K = ((Y2 + 1 : Nat) : Int)) (hT : T = ((j + 1 : Nat) : Int)) (km : Mild w W) => indexAfter_int q b (Y2 + 1) (j + 1) K T W hK hT (HQ.out.mild km) Hb.out (by rw [← HNB.out]; exact hb0) (by omega) (by rw [← HNB.out]; omega) (by rw [← HNB.out]; omega) (fun q _ hq => by rw [show j + 1 - 1 = j by omega, Hv.out] at hq; simp at hq; subst hq; omega))
                obtain ⟨⟨x1, x2⟩, -, b1, b2⟩ := UL.cells S4.out
                clear hY2 hbt
                go_upto_region 23 with (first
                  | (go_at_call 231; (with_reducible refine (MM2.out _).mono ?_); rintro ed w5 ⟨rfl, k4⟩; have S5 := Lib.hid (S4.out.quiet k4); clear b1 b2 x1 x2; obtain ⟨⟨x1, x2⟩, -, -⟩ := UL.cells S5.out; obtain ⟨⟨f1, f2⟩, -, -⟩ := UL.free S5.out)
                  | fail)
                have S6 := Lib.hid (UL.setX S5.out (X : Int) ((Y2 - X : Nat) : Int))
                clear x1 x2 f1 f2 S4
                generalize ((w5.setCell ⟨H, 0, none⟩ (.int .u16 (X : Int))).setCell ⟨H, 1, none⟩ (.int .u16 ((Y2 - X : Nat) : Int))) = w6 at *
                obtain ⟨⟨x1, x2⟩, -, -⟩ := UL.cells S6.out
                go_wp2_with (first
                  | (go_at_call 68; (with_reducible refine (LX.out _).mono ?_); rintro ed w7 ⟨rfl, k6⟩; clear x1 x2; have S7 := Lib.hid (S6.out.quiet k6))
                  | (go_at_call 232; (with_reducible refine (IA.out _ _ _ (by omega) (by omega) (S6.out.mild.trans k6)).mono ?_); rintro ed w8 ⟨j7, rfl, hsp7, k7⟩; have S8 := Lib.hid (S7.out.quiet k7))
                  | fail)
                have g7 := hsp7.1
                have g72 := hsp7.2.1
                rw [← HNB.out] at g72
                go_meet
                case rel => exact ⟨j7, true, Y2, rfl, rfl, Lib.hid (hHM.out j7 hsp7), by omega, g72, Lib.hid (fun _ => by omega), Lib.hid (fun h => by cases h), S8⟩
          case rest =>
            obtain ⟨l, uf2, Y2, rfl, rfl, HG2, hl1, hl2, HV1, HV2, HS5⟩ := hcut
            clear HG HU1 HU2 S4 HBC bb
            cases uf2
            · obtain ⟨rfl, rfl, rfl, e4, e5⟩ := HV2.out rfl
              have HN2 := Lib.hid (HG2.out.push (fun z hz => by rw [Hx.out] at hz; cases hz; exact e4) (fun z hz => by rw [Hv.out] at hz; cases hz; exact e5))
              obtain ⟨⟨x1, x2⟩, -, -⟩ := UL.cells HS5.out
              clear HV1 HV2
              go_wp2_with (first
                | (at_builtin; refine wpList_append_ss rfl (.tmp 84) (.tmp 86) 110 rfl 114 iU (.agg #[.int .u16 (0 : Int), .int .u16 (0 : Int)]) 2 4 undIvs v1 v2 v3 v4 rfl (by decide) w [] [] _ _ _ _ rfl (SS.alloc HS5.out _) ⟨wc.heap.size, 0, none⟩ 1 1 [.int .u16 (X : Int), .int .u16 ((Y2 - X : Nat) : Int)] rfl rfl (Blk.news (Blk.new _ _ _)) (by simp [Value.oneCell']) (by unfold maxLen; omega) (by omega) ?_; intro va wa Sa; have SP := Lib.hid (UL.push (r := (X, Y2)) Sa); clear Sa)
                | fail)
              go_roundw
              case rel => exact ⟨⟨_, rfl⟩, k, l, rfl, rfl, hk2, hl2, Lib.hid ⟨_, _, _, _, _, _, _, .inl ⟨rfl, HN2.out, SP.out⟩⟩⟩
              case measure => simp only [intOf, usN_false, usN_true]; omega
            · have hmv := HV1.out rfl
              clear HV1 HV2
              go_wp2_with fail
              go_roundw
              case rel => exact ⟨⟨_, rfl⟩, k, l, rfl, rfl, hk2, hl2, Lib.hid ⟨_, _, _, _, _, 0, 0, .inr ⟨X, Y2, rfl, HG2.out, HS5.out⟩⟩⟩
              case measure => simp only [intOf, usN_true]; omega
    · obtain ⟨m, A, B', C, D, x, l, ⟨rfl, hM, hS⟩ | ⟨X, Y, rfl, hM, hS⟩⟩ := hrel.out
      · as_aux_lemma =>
          have hml := hM.ok.many
          have HM := Lib.hid hM
          have HS := Lib.hid hS
          have km := hS.mild
          clear hrel hM hS
          by_cases hi2 : i < na
          · have hje : j = nb := by omega
            subst hje
            have j1 : (i : Int) < (na : Int) := by omega
            have j2 : ¬ (na : Int) ≤ (i : Int) := by omega
            have a0 := km.cell2 id cp0
            have CP := Lib.hid (ivs_src (w := wr) (rs := a) (g := gp) (c := cp) (k := i) (by rw [← HNA.out]; exact hi2) (by rw [← HNA.out]; exact hcpl) (fun i r hi => ⟨km.cell2 id (Hcp.out i r hi).1, km.cell2 id (Hcp.out i r hi).2⟩))
            have s1 := fun (W : World) => run_slice_from (P := Tryz.prog) W undIvs szIv gp 0 na cp i .i64 (i : Int) rfl (by omega)
            have HLn := Lib.hid (show (ivs (a.drop i)).length = (na - i) * 2 from by rw [ivs_length, List.length_drop, ← HNA.out])
            have hdb : b.drop j = [] := List.drop_eq_nil_of_le (by rw [← HNB.out]; exact Nat.le_refl _)
            have HU := Lib.hid (HM.out.fin Ha.out Hb.out (.inr hdb))
            rw [hdb, List.append_nil] at HU
            clear km hdb
            go_wp2_with (first
              | (at_builtin; refine wpList_append_ss rfl (.tmp 194) (.tmp 200) 110 rfl 114 iU (.agg #[.int .u16 (0 : Int), .int .u16 (0 : Int)]) 2 4 undIvs v1 v2 v3 v4 rfl (by decide) w [] [] _ _ _ _ rfl HS.out (tlA gp 0 i cp 2) (na - i) (cp - i) (ivs (a.drop i)) rfl HLn.out CP.out (ivs_one _) (by unfold maxLen; (try simp only [List.length_append, List.length_cons, List.length_nil]); omega) (by (try simp only [List.length_append, List.length_cons, List.length_nil]); omega) ?_; intro vb wb Sb; have SQ := Lib.hid (UL.pushes (l := (a.drop i)) (by rw [List.length_drop, ← HNA.out]) Sb); clear Sb; obtain ⟨gz, cz, N, rfl⟩ := UL.shape SQ.out (by rw [List.length_append, List.length_drop, ← HNA.out]; omega))
              | fail)
            go_ret
            exact ⟨wb.heap.size, .slice (some ⟨gz, 0, none⟩) N cz, _, rfl, HU.out.1, HU.out.2, UL.fin SQ.out⟩
          · have hie : i = na := by omega
            subst hie
            have hda : a.drop i = [] := List.drop_eq_nil_of_le (by rw [← HNA.out]; exact Nat.le_refl _)
            by_cases hj2 : j < nb
            · have j1 : (j : Int) < (nb : Int) := by omega
              have j2 : ¬ (nb : Int) ≤ (j : Int) := by omega
              have b0 := km.cell2 id cq0
              have CP := Lib.hid (ivs_src (w := wr) (rs := b) (g := gq) (c := cq) (k := j) (by rw [← HNB.out]; exact hj2) (by rw [← HNB.out]; exact hcql) (fun i r hi => ⟨km.cell2 id (Hcq.out i r hi).1, km.cell2 id (Hcq.out i r hi).2⟩))
              have s1 := fun (W : World) => run_slice_from (P := Tryz.prog) W undIvs szIv gq 0 nb cq j .i64 (j : Int) rfl (by omega)
              have HLn := Lib.hid (show (ivs (b.drop j)).length = (nb - j) * 2 from by rw [ivs_length, List.length_drop, ← HNB.out])
              have HU := Lib.hid (HM.out.fin Ha.out Hb.out (.inl hda))
              rw [hda, List.append_nil] at HU
              clear km hda
              go_wp2_with (first
                | (at_builtin; refine wpList_append_ss rfl (.tmp 205) (.tmp 211) 110 rfl 114 iU (.agg #[.int .u16 (0 : Int), .int .u16 (0 : Int)]) 2 4 undIvs v1 v2 v3 v4 rfl (by decide) w [] [] _ _ _ _ rfl HS.out (tlA gq 0 j cq 2) (nb - j) (cq - j) (ivs (b.drop j)) rfl HLn.out CP.out (ivs_one _) (by unfold maxLen; (try simp only [List.length_append, List.length_cons, List.length_nil]); omega) (by (try simp only [List.length_append, List.length_cons, List.length_nil]); omega) ?_; intro vb wb Sb; have SQ := Lib.hid (UL.pushes (l := (b.drop j)) (by rw [List.length_drop, ← HNB.out]) Sb); clear Sb; obtain ⟨gz, cz, N, rfl⟩ := UL.shape SQ.out (by rw [List.length_append, List.length_drop, ← HNB.out]; omega))
                | fail)
              go_ret
              exact ⟨wb.heap.size, .slice (some ⟨gz, 0, none⟩) N cz, _, rfl, HU.out.1, HU.out.2, UL.fin SQ.out⟩
            · have hje : j = nb := by omega
              subst hje
              have hdb : b.drop j = [] := List.drop_eq_nil_of_le (by rw [← HNB.out]; exact Nat.le_refl _)
              have HU := Lib.hid (HM.out.fin Ha.out Hb.out (.inl hda))
              rw [hda, hdb, List.append_nil, List.append_nil] at HU
              obtain ⟨G, C9, hv9, _⟩ := Own.sliceOf (HS.out.get (A := O 2 114 u5 m.length (ivs m)) (by simp [UL]))
              subst hv9
              clear km hda hdb
              go_wp2_with fail
              go_ret
              exact ⟨wr.heap.size, _, m, rfl, HU.out.1, HU.out.2, UL.fin HS.out⟩
      · by_cases hi2 : i < na
        · have hje : j = nb := by omega
          subst hje
          as_aux_lemma =>
            have HN0 := Lib.hid (show UR w wr H a b u5 i j from ⟨m, _, _, _, _, X, Y, hM, hS⟩)
            clear hM hS hrel
            have i4 : decide (na ≤ i) = false := by simp; omega
            have i5 : decide ((na : Int) ≤ (i : Int)) = false := by simp; omega
            have j1 : (i : Int) < (na : Int) := by omega
            have Hno := Lib.hid (show b[j]? = none from List.getElem?_eq_none (by rw [← HNB.out]; exact Nat.le_refl _))
            have Hdo := Lib.hid (show b.drop j = [] from List.drop_eq_nil_of_le (by rw [← HNB.out]; exact Nat.le_refl _))
            go_wp2
            go_step3
            go_wp2
            go_step3
            go_wp2
            clear X Y i4 i5 j1
            go_loopw [8] (fun s wx => ∃ k : Nat, s = .int .i64 (k : Int) ∧ k ≤ na ∧ Hid (UR w wx H a b u5 k j)) (fun s _ => na - (intOf s).toNat)
            case atStart => exact ⟨i, rfl, by omega, HN0⟩
            case round =>
              clear HN0
              obtain ⟨k, rfl, hk, HN⟩ := hrel
              obtain ⟨m, A, B', C, D, X, Y, hM, hS⟩ := HN.out
              clear HN
              rename World => wy
              have HM := Lib.hid hM
              have HS := Lib.hid hS
              have hml := hM.ok.many
              have hpt := hM.pt
              by_cases hlt : k < na
              · obtain ⟨r, hx⟩ : ∃ r, a[k]? = some r := ⟨_, List.getElem?_eq_getElem (by rw [← HNA.out]; exact hlt)⟩
                have hga := hM.ga r hx
                have km := hS.mild
                have a0 := km.cell2 id cp0
                have a1 := km.cell2 id (Hcp.out k r hx).1
                have a2 := km.cell2 id (Hcp.out k r hx).2
                have hr1 := rg_at Ha.out hx
                have Hx := Lib.hid hx
                have j1 : (k : Int) < (na : Int) := by omega
                clear hS hM km hx
                obtain ⟨-, ⟨c1, c2⟩, -⟩ := UL.cells HS.out
                obtain ⟨-, ⟨f1, f2⟩, -⟩ := UL.free HS.out
                go_upto_region 47 with fail
                have S2 := Lib.hid (UL.setA HS.out (r.1 : Int) ((r.2 - r.1 : Nat) : Int))
                clear a0 a1 a2 c1 c2 f1 f2
                generalize ((wy.setCell ⟨H + 1, 0, none⟩ (.int .u16 (r.1 : Int))).setCell ⟨H + 1, 1, none⟩ (.int .u16 ((r.2 - r.1 : Nat) : Int))) = w2 at *
                clear HS
                obtain ⟨⟨x1, x2⟩, ⟨a1, a2⟩, -⟩ := UL.cells S2.out
                by_cases hm : X ≤ r.2 + 1 ∧ r.1 ≤ Y + 1
                · obtain ⟨Y1, hY1⟩ : ∃ z, z = max Y r.2 := ⟨_, rfl⟩
                  have hHM := Lib.hid (fun (l : Nat) (hk : Spot16 a (k + 1) (Y1 + 1) l) => show UG a b l j X Y1 m from by rw [hY1] at hk ⊢; exact HM.out.joinA Ha.out Hx.out hm.2 hk)
                  have m2 : Y ≤ Y1 := by omega
                  have m4 : r.2 ≤ Y1 := by omega
                  have m3 : Y1 < 65536 := by omega
                  have CA := Lib.hid (fun (W : World) => show Calls Tryz.prog 230 #[.agg #[.int .u16 (r.1 : Int), .int .u16 ((r.2 - r.1 : Nat) : Int)], .agg #[.int .u16 (X : Int), .int .u16 ((Y - X : Nat) : Int)]] W fun ed w' => ed = .returned (.bool true) ∧ Mild W w' from canMerge_r r (X, Y) true W hr1 hpt (decide_eq_true hm).symm)
                  have MM2 := Lib.hid (fun (W : World) => show Calls Tryz.prog 231 #[.agg #[.int .u16 (r.1 : Int), .int .u16 ((r.2 - r.1 : Nat) : Int)], .agg #[.int .u16 (X : Int), .int .u16 ((Y - X : Nat) : Int)]] W fun ed w' => ed = .returned (.agg #[.int .u16 (X : Int), .int .u16 ((Y1 - X : Nat) : Int)]) ∧ Mild W w' from by
                    have := merge_r r (X, Y) W hr1 hpt hm
                    rw [show Nat.min r.1 (X, Y).1 = X from Nat.min_eq_right hga, show Nat.max r.2 (X, Y).2 = Y1 from by rw [hY1]; exact Nat.max_comm _ _] at this
                    exact this)
                  have LX := Lib.hid (fun (W : World) => show Calls Tryz.prog 68 #[.agg #[.int .u16 (X : Int), .int .u16 ((Y1 - X : Nat) : Int)]] W fun ed w' => ed = .returned (.int .u16 (Y1 : Int)) ∧ Mild W w' from last_r (X, Y1) W ⟨show X ≤ Y1 by omega, m3⟩)
                  have IA := Lib.hid (fun (K T : Int) (W : World) (hK : K = ((Y1 + 1 : Nat) : Int)) (hT : T = ((k + 1 : Nat) : Int)) (km : Mild w W) => indexAfter_int p a (Y1 + 1) (k + 1) K T W hK hT (HR.out.mild km) Ha.out (by rw [← HNA.out]; omega) (by omega) (by rw [← HNA.out]; omega) (by rw [← HNA.out]; omega) (fun q _ hq => by rw [show k + 1 - 1 = k by omega, Hx.out] at hq; simp at hq; subst hq; omega))
                  clear hY1
                  go_upto_region 48 with (first
                    | (go_at_call 230; (with_reducible refine (CA.out _).mono ?_); rintro ed w3 ⟨rfl, k3⟩; have S3 := Lib.hid (S2.out.quiet k3); clear a1 a2 x1 x2; obtain ⟨⟨x1, x2⟩, ⟨a1, a2⟩, -⟩ := UL.cells S3.out)
                    | fail)
                  go_upto_region 49 with (first
                    | (go_at_call 231; (with_reducible refine (MM2.out _).mono ?_); rintro ed w4 ⟨rfl, k4⟩; have S4 := Lib.hid (S3.out.quiet k4); clear a1 a2 x1 x2; obtain ⟨⟨x1, x2⟩, -, -⟩ := UL.cells S4.out; obtain ⟨⟨f1, f2⟩, -, -⟩ := UL.free S4.out)
                    | fail)
                  have S5 := Lib.hid (UL.setX S4.out (X : Int) ((Y1 - X : Nat) : Int))
                  clear x1 x2 f1 f2 S2 S3
                  generalize ((w4.setCell ⟨H, 0, none⟩ (.int .u16 (X : Int))).setCell ⟨H, 1, none⟩ (.int .u16 ((Y1 - X : Nat) : Int))) = w5 at *
                  obtain ⟨⟨x1, x2⟩, -, -⟩ := UL.cells S5.out
                  go_wp2_with (first
                    | (go_at_call 68; (with_reducible refine (LX.out _).mono ?_); rintro ed w6 ⟨rfl, k6⟩; clear x1 x2; have S6 := Lib.hid (S5.out.quiet k6))
                    | (go_at_call 232; (with_reducible refine (IA.out _ _ _ (by omega) (by omega) (S5.out.mild.trans k6)).mono ?_); rintro ed w7 ⟨j7, rfl, hsp7, k7⟩; have S7 := Lib.hid (S6.out.quiet k7))
                    | fail)
                  have g7 := hsp7.1
                  have g72 := hsp7.2.1
                  rw [← HNA.out] at g72
                  go_roundw
                  case rel => exact ⟨j7, rfl, g72, Lib.hid ⟨m, _, _, _, _, X, Y1, hHM.out j7 hsp7, S7.out⟩⟩
                  case measure => show na - ((j7 : Int)).toNat < na - ((k : Int)).toNat; omega
                · have hfar : Y + 1 < r.1 := by omega
                  have HN2 := Lib.hid (HM.out.push (fun z hz => by rw [Hx.out] at hz; cases hz; exact hfar) (fun z hz => by rw [Hno.out] at hz; cases hz))
                  have HU := Lib.hid (HN2.out.fin Ha.out Hb.out (.inr Hdo.out))
                  rw [Hdo.out, List.append_nil] at HU
                  have CA := Lib.hid (fun (W : World) => show Calls Tryz.prog 230 #[.agg #[.int .u16 (r.1 : Int), .int .u16 ((r.2 - r.1 : Nat) : Int)], .agg #[.int .u16 (X : Int), .int .u16 ((Y - X : Nat) : Int)]] W fun ed w' => ed = .returned (.bool false) ∧ Mild W w' from canMerge_r r (X, Y) false W hr1 hpt (decide_eq_false hm).symm)
                  have HLn := Lib.hid (show (ivs (a.drop k)).length = (na - k) * 2 from by rw [ivs_length, List.length_drop, ← HNA.out])
                  go_upto_if 149 with (first
                    | (go_at_call 230; (with_reducible refine (CA.out _).mono ?_); rintro ed w3 ⟨rfl, k3⟩; have S3 := Lib.hid (S2.out.quiet k3); clear a1 a2 x1 x2; obtain ⟨⟨x1, x2⟩, ⟨a1, a2⟩, -⟩ := UL.cells S3.out)
                    | fail)
                  clear S2 CA
                  have s1 := fun (W : World) => run_slice_from (P := Tryz.prog) W undIvs szIv gp 0 na cp k .i64 (k : Int) rfl (by omega)
                  go_wp2_with fail
                  rw [Exit.noGoto_normal]
                  go_wp2_with (first
                    | (at_builtin; refine wpList_append_ss rfl (.tmp 187) (.tmp 189) 110 rfl 114 iU (.agg #[.int .u16 (0 : Int), .int .u16 (0 : Int)]) 2 4 undIvs v1 v2 v3 v4 rfl (by decide) w [] [] _ _ _ _ rfl (SS.alloc S3.out _) ⟨w3.heap.size, 0, none⟩ 1 1 [.int .u16 (X : Int), .int .u16 ((Y - X : Nat) : Int)] rfl rfl (Blk.news (Blk.new _ _ _)) (by simp [Value.oneCell']) (by unfold maxLen; omega) (by omega) ?_; intro va wa Sa; have SP := Lib.hid (UL.push (r := (X, Y)) Sa); clear Sa; have km := SP.out.mild; have a0 := km.cell2 id cp0; have CP := Lib.hid (ivs_src (w := wa) (rs := a) (g := gp) (c := cp) (k := k) (by rw [← HNA.out]; exact hlt) (by rw [← HNA.out]; exact hcpl) (fun i r hi => ⟨km.cell2 id (Hcp.out i r hi).1, km.cell2 id (Hcp.out i r hi).2⟩)); clear km x1 x2 a1 a2 S3)
                    | (at_builtin; refine wpList_append_ss rfl (.tmp 194) (.tmp 200) 110 rfl 114 iU (.agg #[.int .u16 (0 : Int), .int .u16 (0 : Int)]) 2 4 undIvs v1 v2 v3 v4 rfl (by decide) w [] [] _ _ _ _ rfl SP.out (tlA gp 0 k cp 2) (na - k) (cp - k) (ivs (a.drop k)) rfl HLn.out CP.out (ivs_one _) (by unfold maxLen; (try simp only [List.length_append, List.length_cons, List.length_nil]); omega) (by (try simp only [List.length_append, List.length_cons, List.length_nil]); omega) ?_; intro vb wb Sb; have SQ := Lib.hid (UL.pushes (l := (a.drop k)) (by rw [List.length_drop, ← HNA.out]) Sb); clear Sb; obtain ⟨gz, cz, N, rfl⟩ := UL.shape SQ.out (by rw [List.length_append, List.length_drop, ← HNA.out]; omega))
                    | fail)
                  go_ret
                  exact ⟨wb.heap.size, .slice (some ⟨gz, 0, none⟩) N cz, _, rfl, HU.out.1, HU.out.2, UL.fin SQ.out⟩
              · have hke : k = na := by omega
                subst hke
                have hk9 : a[k]? = none := List.getElem?_eq_none (by rw [← HNA.out]; exact Nat.le_refl _)
                have hdk : a.drop k = [] := List.drop_eq_nil_of_le (by rw [← HNA.out]; exact Nat.le_refl _)
                have HN2 := Lib.hid (HM.out.push (fun z hz => by rw [hk9] at hz; cases hz) (fun z hz => by rw [Hno.out] at hz; cases hz))
                have HU := Lib.hid (HN2.out.fin Ha.out Hb.out (.inr Hdo.out))
                rw [Hdo.out, hdk, List.append_nil, List.append_nil] at HU
                obtain ⟨⟨x1, x2⟩, -, -⟩ := UL.cells HS.out
                clear hS hM hk9 hdk
                go_wp2_with fail
                rw [Exit.noGoto_normal]
                go_wp2_with (first
                  | (at_builtin; refine wpList_append_ss rfl (.tmp 187) (.tmp 189) 110 rfl 114 iU (.agg #[.int .u16 (0 : Int), .int .u16 (0 : Int)]) 2 4 undIvs v1 v2 v3 v4 rfl (by decide) w [] [] _ _ _ _ rfl (SS.alloc HS.out _) ⟨wy.heap.size, 0, none⟩ 1 1 [.int .u16 (X : Int), .int .u16 ((Y - X : Nat) : Int)] rfl rfl (Blk.news (Blk.new _ _ _)) (by simp [Value.oneCell']) (by unfold maxLen; omega) (by omega) ?_; intro va wa Sa; have SP := Lib.hid (UL.push (r := (X, Y)) Sa); clear Sa; obtain ⟨gz, cz, N, rfl⟩ := UL.shape SP.out (by simp))
                  | fail)
                go_ret
                exact ⟨wa.heap.size, .slice (some ⟨gz, 0, none⟩) N cz, _, rfl, HU.out.1, HU.out.2, UL.fin SP.out⟩
        · have hie : i = na := by omega
          subst hie
          by_cases hj2 : j < nb
          · as_aux_lemma =>
              have HN0 := Lib.hid (show UR w wr H a b u5 i j from ⟨m, _, _, _, _, X, Y, hM, hS⟩)
              clear hM hS hrel
              have i4 : decide (nb ≤ j) = false := by simp; omega
              have i5 : decide ((nb : Int) ≤ (j : Int)) = false := by simp; omega
              have j1 : (j : Int) < (nb : Int) := by omega
              have Hno := Lib.hid (show a[i]? = none from List.getElem?_eq_none (by rw [← HNA.out]; exact Nat.le_refl _))
              have Hdo := Lib.hid (show a.drop i = [] from List.drop_eq_nil_of_le (by rw [← HNA.out]; exact Nat.le_refl _))
              go_wp2
              go_step3
              go_wp2
              go_step3
              go_wp2
              clear X Y i4 i5 j1
              go_loopw [9] (fun s wx => ∃ k : Nat, s = .int .i64 (k : Int) ∧ k ≤ nb ∧ Hid (UR w wx H a b u5 i k)) (fun s _ => nb - (intOf s).toNat)
              case atStart => exact ⟨j, rfl, by omega, HN0⟩
              case round =>
                clear HN0
                obtain ⟨k, rfl, hk, HN⟩ := hrel
                obtain ⟨m, A, B', C, D, X, Y, hM, hS⟩ := HN.out
                clear HN
                rename World => wy
                have HM := Lib.hid hM
                have HS := Lib.hid hS
                have hml := hM.ok.many
                have hpt := hM.pt
                by_cases hlt : k < nb
                · obtain ⟨r, hx⟩ : ∃ r, b[k]? = some r := ⟨_, List.getElem?_eq_getElem (by rw [← HNB.out]; exact hlt)⟩
                  have hga := hM.gb r hx
                  have km := hS.mild
                  have a0 := km.cell2 id cq0
                  have a1 := km.cell2 id (Hcq.out k r hx).1
                  have a2 := km.cell2 id (Hcq.out k r hx).2
                  have hr1 := rg_at Hb.out hx
                  have Hx := Lib.hid hx
                  have j1 : (k : Int) < (nb : Int) := by omega
                  clear hS hM km hx
                  obtain ⟨-, -, c1, c2⟩ := UL.cells HS.out
                  obtain ⟨-, -, f1, f2⟩ := UL.free HS.out
                  go_upto_region 53 with fail
                  have S2 := Lib.hid (UL.setC HS.out (r.1 : Int) ((r.2 - r.1 : Nat) : Int))
                  clear a0 a1 a2 c1 c2 f1 f2
                  generalize ((wy.setCell ⟨H + 1 + 1, 0, none⟩ (.int .u16 (r.1 : Int))).setCell ⟨H + 1 + 1, 1, none⟩ (.int .u16 ((r.2 - r.1 : Nat) : Int))) = w2 at *
                  clear HS
                  obtain ⟨⟨x1, x2⟩, -, a1, a2⟩ := UL.cells S2.out
                  by_cases hm : X ≤ r.2 + 1 ∧ r.1 ≤ Y + 1
                  · obtain ⟨Y1, hY1⟩ : ∃ z, z = max Y r.2 := ⟨_, rfl⟩
                    have hHM := Lib.hid (fun (l : Nat) (hk : Spot16 b (k + 1) (Y1 + 1) l) => show UG a b i l X Y1 m from by rw [hY1] at hk ⊢; exact (HM.out.swap.joinA Hb.out Hx.out hm.2 hk).swap)
                    have m2 : Y ≤ Y1 := by omega
                    have m4 : r.2 ≤ Y1 := by omega
                    have m3 : Y1 < 65536 := by omega
                    have CA := Lib.hid (fun (W : World) => show Calls Tryz.prog 230 #[.agg #[.int .u16 (r.1 : Int), .int .u16 ((r.2 - r.1 : Nat) : Int)], .agg #[.int .u16 (X : Int), .int .u16 ((Y - X : Nat) : Int)]] W fun ed w' => ed = .returned (.bool true) ∧ Mild W w' from canMerge_r r (X, Y) true W hr1 hpt (decide_eq_true hm).symm)
                    have MM2 := Lib.hid (fun (W : World) => show Calls Tryz.prog 231 #[.agg #[.int .u16 (r.1 : Int), .int .u16 ((r.2 - r.1 : Nat) : Int)], .agg #[.int .u16 (X : Int), .int .u16 ((Y - X : Nat) : Int)]] W fun ed w' => ed = .returned (.agg #[.int .u16 (X : Int), .int .u16 ((Y1 - X : Nat) : Int)]) ∧ Mild W w' from by
                      have := merge_r r (X, Y) W hr1 hpt hm
                      rw [show Nat.min r.1 (X, Y).1 = X from Nat.min_eq_right hga, show Nat.max r.2 (X, Y).2 = Y1 from by rw [hY1]; exact Nat.max_comm _ _] at this
                      exact this)
                    have LX := Lib.hid (fun (W : World) => show Calls Tryz.prog 68 #[.agg #[.int .u16 (X : Int), .int .u16 ((Y1 - X : Nat) : Int)]] W fun ed w' => ed = .returned (.int .u16 (Y1 : Int)) ∧ Mild W w' from last_r (X, Y1) W ⟨show X ≤ Y1 by omega, m3⟩)
                    have IA := Lib.hid (fun (K T : Int) (W : World) (hK : K = ((Y1 + 1 : Nat) : Int)) (hT : T = ((k + 1 : Nat) : Int)) (km : Mild w W) => indexAfter_int q b (Y1 + 1) (k + 1) K T W hK hT (HQ.out.mild km) Hb.out (by rw [← HNB.out]; omega) (by omega) (by rw [← HNB.out]; omega) (by rw [← HNB.out]; omega) (fun q _ hq => by rw [show k + 1 - 1 = k by omega, Hx.out] at hq; simp at hq; subst hq; omega))
                    clear hY1
                    go_upto_region 54 with (first
                      | (go_at_call 230; (with_reducible refine (CA.out _).mono ?_); rintro ed w3 ⟨rfl, k3⟩; have S3 := Lib.hid (S2.out.quiet k3); clear a1 a2 x1 x2; obtain ⟨⟨x1, x2⟩, -, a1, a2⟩ := UL.cells S3.out)
                      | fail)
                    go_upto_region 55 with (first
                      | (go_at_call 231; (with_reducible refine (MM2.out _).mono ?_); rintro ed w4 ⟨rfl, k4⟩; have S4 := Lib.hid (S3.out.quiet k4); clear a1 a2 x1 x2; obtain ⟨⟨x1, x2⟩, -, -⟩ := UL.cells S4.out; obtain ⟨⟨f1, f2⟩, -, -⟩ := UL.free S4.out)
                      | fail)
                    have S5 := Lib.hid (UL.setX S4.out (X : Int) ((Y1 - X : Nat) : Int))
                    clear x1 x2 f1 f2 S2 S3
                    generalize ((w4.setCell ⟨H, 0, none⟩ (.int .u16 (X : Int))).setCell ⟨H, 1, none⟩ (.int .u16 ((Y1 - X : Nat) : Int))) = w5 at *
                    obtain ⟨⟨x1, x2⟩, -, -⟩ := UL.cells S5.out
                    go_wp2_with (first
                      | (go_at_call 68; (with_reducible refine (LX.out _).mono ?_); rintro ed w6 ⟨rfl, k6⟩; clear x1 x2; have S6 := Lib.hid (S5.out.quiet k6))
                      | (go_at_call 232; (with_reducible refine (IA.out _ _ _ (by omega) (by omega) (S5.out.mild.trans k6)).mono ?_); rintro ed w7 ⟨j7, rfl, hsp7, k7⟩; have S7 := Lib.hid (S6.out.quiet k7))
                      | fail)
                    have g7 := hsp7.1
                    have g72 := hsp7.2.1
                    rw [← HNB.out] at g72
                    go_roundw
                    case rel => exact ⟨j7, rfl, g72, Lib.hid ⟨m, _, _, _, _, X, Y1, hHM.out j7 hsp7, S7.out⟩⟩
                    case measure => show nb - ((j7 : Int)).toNat < nb - ((k : Int)).toNat; omega
                  · have hfar : Y + 1 < r.1 := by omega
                    have HN2 := Lib.hid (HM.out.push (fun z hz => by rw [Hno.out] at hz; cases hz) (fun z hz => by rw [Hx.out] at hz; cases hz; exact hfar))
                    have HU := Lib.hid (HN2.out.fin Ha.out Hb.out (.inl Hdo.out))
                    rw [Hdo.out, List.append_nil] at HU
                    have CA := Lib.hid (fun (W : World) => show Calls Tryz.prog 230 #[.agg #[.int .u16 (r.1 : Int), .int .u16 ((r.2 - r.1 : Nat) : Int)], .agg #[.int .u16 (X : Int), .int .u16 ((Y - X : Nat) : Int)]] W fun ed w' => ed = .returned (.bool false) ∧ Mild W w' from canMerge_r r (X, Y) false W hr1 hpt (decide_eq_false hm).symm)
                    have HLn := Lib.hid (show (ivs (b.drop k)).length = (nb - k) * 2 from by rw [ivs_length, List.length_drop, ← HNB.out])
                    go_upto_if 175 with (first
                      | (go_at_call 230; (with_reducible refine (CA.out _).mono ?_); rintro ed w3 ⟨rfl, k3⟩; have S3 := Lib.hid (S2.out.quiet k3); clear a1 a2 x1 x2; obtain ⟨⟨x1, x2⟩, -, a1, a2⟩ := UL.cells S3.out)
                      | fail)
                    clear S2 CA
                    have s1 := fun (W : World) => run_slice_from (P := Tryz.prog) W undIvs szIv gq 0 nb cq k .i64 (k : Int) rfl (by omega)
                    go_wp2_with fail
                    rw [Exit.noGoto_normal]
                    go_wp2_with (first
                      | (at_builtin; refine wpList_append_ss rfl (.tmp 187) (.tmp 189) 110 rfl 114 iU (.agg #[.int .u16 (0 : Int), .int .u16 (0 : Int)]) 2 4 undIvs v1 v2 v3 v4 rfl (by decide) w [] [] _ _ _ _ rfl (SS.alloc S3.out _) ⟨w3.heap.size, 0, none⟩ 1 1 [.int .u16 (X : Int), .int .u16 ((Y - X : Nat) : Int)] rfl rfl (Blk.news (Blk.new _ _ _)) (by simp [Value.oneCell']) (by unfold maxLen; omega) (by omega) ?_; intro va wa Sa; have SP := Lib.hid (UL.push (r := (X, Y)) Sa); clear Sa; have km := SP.out.mild; have a0 := km.cell2 id cq0; have CP := Lib.hid (ivs_src (w := wa) (rs := b) (g := gq) (c := cq) (k := k) (by rw [← HNB.out]; exact hlt) (by rw [← HNB.out]; exact hcql) (fun i r hi => ⟨km.cell2 id (Hcq.out i r hi).1, km.cell2 id (Hcq.out i r hi).2⟩)); clear km x1 x2 a1 a2 S3)
                      | (at_builtin; refine wpList_append_ss rfl (.tmp 205) (.tmp 211) 110 rfl 114 iU (.agg #[.int .u16 (0 : Int), .int .u16 (0 : Int)]) 2 4 undIvs v1 v2 v3 v4 rfl (by decide) w [] [] _ _ _ _ rfl SP.out (tlA gq 0 k cq 2) (nb - k) (cq - k) (ivs (b.drop k)) rfl HLn.out CP.out (ivs_one _) (by unfold maxLen; (try simp only [List.length_append, List.length_cons, List.length_nil]); omega) (by (try simp only [List.length_append, List.length_cons, List.length_nil]); omega) ?_; intro vb wb Sb; have SQ := Lib.hid (UL.pushes (l := (b.drop k)) (by rw [List.length_drop, ← HNB.out]) Sb); clear Sb; obtain ⟨gz, cz, N, rfl⟩ := UL.shape SQ.out (by rw [List.length_append, List.length_drop, ← HNB.out]; omega))
                      | fail)
                    go_ret
                    exact ⟨wb.heap.size, .slice (some ⟨gz, 0, none⟩) N cz, _, rfl, HU.out.1, HU.out.2, UL.fin SQ.out⟩
                · have hke : k = nb := by omega
                  subst hke
                  have hk9 : b[k]? = none := List.getElem?_eq_none (by rw [← HNB.out]; exact Nat.le_refl _)
                  have hdk : b.drop k = [] := List.drop_eq_nil_of_le (by rw [← HNB.out]; exact Nat.le_refl _)
                  have HN2 := Lib.hid (HM.out.push (fun z hz => by rw [Hno.out] at hz; cases hz) (fun z hz => by rw [hk9] at hz; cases hz))
                  have HU := Lib.hid (HN2.out.fin Ha.out Hb.out (.inl Hdo.out))
                  rw [Hdo.out, hdk, List.append_nil, List.append_nil] at HU
                  obtain ⟨⟨x1, x2⟩, -, -⟩ := UL.cells HS.out
                  clear hS hM hk9 hdk
                  go_wp2_with fail
                  rw [Exit.noGoto_normal]
                  go_wp2_with (first
                    | (at_builtin; refine wpList_append_ss rfl (.tmp 187) (.tmp 189) 110 rfl 114 iU (.agg #[.int .u16 (0 : Int), .int .u16 (0 : Int)]) 2 4 undIvs v1 v2 v3 v4 rfl (by decide) w [] [] _ _ _ _ rfl (SS.alloc HS.out _) ⟨wy.heap.size, 0, none⟩ 1 1 [.int .u16 (X : Int), .int .u16 ((Y - X : Nat) : Int)] rfl rfl (Blk.news (Blk.new _ _ _)) (by simp [Value.oneCell']) (by unfold maxLen; omega) (by omega) ?_; intro va wa Sa; have SP := Lib.hid (UL.push (r := (X, Y)) Sa); clear Sa; obtain ⟨gz, cz, N, rfl⟩ := UL.shape SP.out (by simp))
                    | fail)
                  go_ret
                  exact ⟨wa.heap.size, .slice (some ⟨gz, 0, none⟩) N cz, _, rfl, HU.out.1, HU.out.2, UL.fin SP.out⟩
          · have hje : j = nb := by omega
            subst hje
            have hml := hM.ok.many
            have HM := Lib.hid hM
            have HS := Lib.hid hS
            have hka : a[i]? = none := List.getElem?_eq_none (by rw [← HNA.out]; exact Nat.le_refl _)
            have hkb : b[j]? = none := List.getElem?_eq_none (by rw [← HNB.out]; exact Nat.le_refl _)
            have hda : a.drop i = [] := List.drop_eq_nil_of_le (by rw [← HNA.out]; exact Nat.le_refl _)
            have hdb : b.drop j = [] := List.drop_eq_nil_of_le (by rw [← HNB.out]; exact Nat.le_refl _)
            have HN2 := Lib.hid (HM.out.push (fun z hz => by rw [hka] at hz; cases hz) (fun z hz => by rw [hkb] at hz; cases hz))
            have HU := Lib.hid (HN2.out.fin Ha.out Hb.out (.inl hda))
            rw [hda, hdb, List.append_nil, List.append_nil] at HU
            obtain ⟨⟨x1, x2⟩, -, -⟩ := UL.cells HS.out
            clear hM hS hrel hka hkb hda hdb
            go_wp2_with (first
              | (at_builtin; refine wpList_append_ss rfl (.tmp 187) (.tmp 189) 110 rfl 114 iU (.agg #[.int .u16 (0 : Int), .int .u16 (0 : Int)]) 2 4 undIvs v1 v2 v3 v4 rfl (by decide) w [] [] _ _ _ _ rfl (SS.alloc HS.out _) ⟨wr.heap.size, 0, none⟩ 1 1 [.int .u16 (X : Int), .int .u16 ((Y - X : Nat) : Int)] rfl rfl (Blk.news (Blk.new _ _ _)) (by simp [Value.oneCell']) (by unfold maxLen; omega) (by omega) ?_; intro va wa Sa; have SP := Lib.hid (UL.push (r := (X, Y)) Sa); clear Sa; obtain ⟨gz, cz, N, rfl⟩ := UL.shape SP.out (by simp))
              | fail)
            go_ret
            exact ⟨wa.heap.size, .slice (some ⟨gz, 0, none⟩) N cz, _, rfl, HU.out.1, HU.out.2, UL.fin SP.out⟩
end Go.Proofs
