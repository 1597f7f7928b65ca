/-
  runContainer16.AndNotRunContainer16: runs of one container without those of another.
-/
import Derived.Test.YtjjijipfhnoomaaGreatDoorJRsb
import Derived.Test.YtjjijipfhnoomaaGreatDoorKUni
import Derived.Test.YtjjijipfhnoomaaGreatDoorJOnr
import Derived.Test.YtjjijipfhnoomaaGreatDoorJKo
import Derived.Deep.RegionHeld3
namespace Go.Proofs
open Go.RowKit Go.Roar
attribute [local go_sem ↓] Go.wp_at_zero Go.wp_at_succ
theorem newRC_any (w : World) : Calls Tryz.prog 246 #[] w fun ed w' => ed = .returned (.pointer (some ⟨w.heap.size, 0, none⟩)) ∧ w' = w.alloc (.cells #[.slice none 0 0] 112) := by
  go_enter Tryz.func246, Tryz.ntmps246
  go_wp2
  go_ret
  exact ⟨rfl, rfl⟩
theorem rc_empty {w0 w : World} {F : List Nat} {z : Nat} (h : SS w0 F w [B z 112 [.slice none 0 0]]) : SS w0 F w (RC z (.slice none 0 0) []) := by
  unfold RC
  refine ⟨⟨fun A hA => ?_, by simp [O, B]⟩, fun b hb => h.sub b (by simpa [O, B] using hb), h.kept⟩
  simp only [List.mem_cons, List.not_mem_nil, or_false] at hA
  rcases hA with rfl | rfl
  · exact h.get (by simp)
  · exact ⟨rfl, .inl ⟨rfl, rfl⟩⟩

theorem rc_push {w0 W : World} {F : List Nat} {H x y : Nat} {v : Value} {d : List (Nat × Nat)} (h : SS w0 F W ([] ++ B H 112 [v] :: [O 2 114 v (d.length + 1) (ivs d ++ [.int .u16 (x : Int), .int .u16 ((y - x : Nat) : Int)])])) : SS w0 F W (RC H v (d ++ [(x, y)])) := by
  have e : ivs (d ++ [(x, y)]) = ivs d ++ [.int .u16 (x : Int), .int .u16 ((y - x : Nat) : Int)] := by rw [ivs_app]; simp [ivs]
  unfold RC
  rw [e, List.length_append]
  exact h

theorem rc_pushes {w0 W : World} {F : List Nat} {H N : Nat} {v : Value} {m l : List (Nat × Nat)} (hN : N = m.length + l.length) (h : SS w0 F W ([] ++ B H 112 [v] :: [O 2 114 v N (ivs m ++ ivs l)])) : SS w0 F W (RC H v (m ++ l)) := by
  unfold RC
  rw [ivs_app, List.length_append, ← hN]
  exact h
noncomputable def anI (a b : Int) : Nat := open Classical in if a ≤ b then 1 else 0
theorem anI_le (a b : Int) : anI a b ≤ 1 := by unfold anI; split <;> omega
theorem anI_one {a b : Int} (h : a ≤ b) : anI a b = 1 := by unfold anI; rw [if_pos h]
theorem anI_nil {a b : Int} (h : b < a) : anI a b = 0 := by unfold anI; rw [if_neg (by omega)]

set_option maxRecDepth 100000 in
set_option maxHeartbeats 4000000 in
theorem andNot_any (p q : Nat) (a b : List (Nat × Nat)) (w : World) (hA : RCV w p a) (hB : RCV w q b) (ha : RgOK 65536 a) (hb : RgOK 65536 b) (ha0 : 0 < a.length) (hb0 : 0 < b.length) :
    Calls Tryz.prog 237 #[.pointer (some ⟨p, 0, none⟩), .pointer (some ⟨q, 0, none⟩)] w fun ed w' => ∃ z v m, ed = .returned (.pointer (some ⟨z, 0, none⟩)) ∧ RgOK 65536 m ∧ (∀ x, inR m x ↔ inR a x ∧ ¬ inR b x) ∧ SS w [] w' (RC z v m) := by
  obtain ⟨iU, v1, v2, v3, v4⟩ := info_parts infoIv
  have hal := ha.many
  have hbl := hb.many
  obtain ⟨ga, ca, hca, a0, a1⟩ := hA
  obtain ⟨gb, cb, hcb, b0, b1⟩ := hB
  have HA := Lib.hid a1
  have HB := Lib.hid b1
  obtain ⟨r0, hr0⟩ : ∃ r, a[0]? = some r := ⟨_, List.getElem?_eq_getElem ha0⟩
  obtain ⟨q0, hq0⟩ : ∃ r, b[0]? = some r := ⟨_, List.getElem?_eq_getElem hb0⟩
  obtain ⟨x1, x2⟩ := a1 0 r0 hr0
  obtain ⟨y1, y2⟩ := b1 0 q0 hq0
  have k1 := rg_at ha hr0
  have k2 := rg_at hb hq0
  have HAN := Lib.hid (AN.start (b := b) ha hr0)
  have HR0 := Lib.hid hr0
  have HQ0 := Lib.hid hq0
  have OKa := Lib.hid ha
  have OKb := Lib.hid hb
  clear a1 b1 hr0 hq0 ha hb
  obtain ⟨na, hna⟩ : ∃ n, n = a.length := ⟨_, rfl⟩
  obtain ⟨nb, hnb⟩ : ∃ n, n = b.length := ⟨_, rfl⟩
  rw [← hna] at ha0 hal a0 hca
  rw [← hnb] at hb0 hbl b0 hcb
  have HNA := Lib.hid hna
  have HNB := Lib.hid hnb
  clear hna hnb
  have i1 : ¬ (na : Int) = 0 := by omega
  have i2 : ¬ (nb : Int) = 0 := by omega
  have i1b : ((na : Int) == 0) = false := by rw [beq_eq_false_iff_ne]; omega
  have i2b : ((nb : Int) == 0) = false := by rw [beq_eq_false_iff_ne]; omega
  have i3 : (0 : Int) < (na : Int) := by omega
  have i4 : (0 : Int) < (nb : Int) := by omega
  have S0 := rc_empty (SS.new (w := w) (L := []) (SS.init (w := w) (L := []) ⟨by simp, by simp⟩) 112 [.slice none 0 0])
  have LA := Lib.hid (fun (r : Nat × Nat) (W : World) (h : r.1 ≤ r.2 ∧ r.2 < 65536) => last_r r W h)
  simp only [Nat.zero_mul, Nat.zero_add] at x1 x2 y1 y2
  have m0 : Mild w (w.alloc (.cells #[.slice none 0 0] 112)) := (Kept.refl _ _).alloc _
  have a0' := m0.cell2 id a0
  have b0' := m0.cell2 id b0
  have x1' := m0.cell2 id x1
  have x2' := m0.cell2 id x2
  have y1' := m0.cell2 id y1
  have y2' := m0.cell2 id y2
  go_enter Tryz.func237, Tryz.ntmps237
  go_wp2_with (first
    | (go_at_call 246; (with_reducible refine (newRC_any _).mono ?_); rintro ed w1 ⟨rfl, rfl⟩)
    | (go_at_call 68; (with_reducible refine (LA.out r0 _ k1).mono ?_); rintro ed w2 ⟨rfl, hk⟩; have m2 := m0.trans hk; have S2 := S0.quiet hk; have a2 := m2.cell2 id a0; have b2 := m2.cell2 id b0; have y2a := m2.cell2 id y1; have y2b := m2.cell2 id y2; clear hk S0 m0)
    | (go_at_call 68; (with_reducible refine (LA.out q0 _ k2).mono ?_); rintro ed w3 ⟨rfl, hk⟩; have S3 := Lib.hid (S2.quiet hk); have a3 := hk.cell2 id a2; have b3 := hk.cell2 id b2; clear hk)
    | fail)
  generalize w.heap.size = H at *
  go_loopw [6, 7, 9, 10, 11, 12] (fun i j s l u e wr => ∃ (I J S : Nat) (v : Value) (d : List (Nat × Nat)), i = .int .i64 I ∧ j = .int .i64 J ∧ s = .int .u16 S ∧ Hid (AN a b I J S d) ∧ Hid (∀ r : Nat × Nat, a[I]? = some r → l = .int .u16 (r.2 : Int)) ∧ Hid (∀ r : Nat × Nat, b[J]? = some r → u = .int .u16 (r.1 : Int) ∧ e = .int .u16 (r.2 : Int)) ∧ Hid (SS w [] wr (RC H v d))) (fun i j s _ _ e _ => 2 * (na - (intOf i).toNat) + 2 * (nb - (intOf j).toNat) + anI (intOf s) (intOf e))
  case atStart => exact ⟨0, 0, r0.1, .slice none 0 0, [], rfl, rfl, rfl, HAN, Lib.hid (fun r hr => by rw [HR0.out] at hr; cases hr; rfl), Lib.hid (fun r hr => by rw [HQ0.out] at hr; cases hr; exact ⟨rfl, rfl⟩), S3⟩
  case round =>
    obtain ⟨I, J, S, v, d, rfl, rfl, rfl, HN, HL, HU, HS⟩ := hrel
    obtain ⟨A, c, rfl, _⟩ := Own.sliceOf (HS.out.get (A := O 2 114 v d.length (ivs d)) (by simp [RC]))
    have M := SS.mild HS.out
    have a4 := M.cell2 id a0
    have b4 := M.cell2 id b0
    have hI := HN.out.hi
    have hJ := HN.out.hj
    rw [← HNA.out] at hI
    rw [← HNB.out] at hJ
    by_cases hIJ : I < na ∧ J < nb
    · obtain ⟨hI2, hJ2⟩ := hIJ
      have j1 : (I : Int) < (na : Int) := by omega
      have j2 : (J : Int) < (nb : Int) := by omega
      obtain ⟨r, hr⟩ : ∃ r, a[I]? = some r := ⟨_, List.getElem?_eq_getElem (by rw [← HNA.out]; exact hI2)⟩
      obtain ⟨v', hv'⟩ : ∃ r, b[J]? = some r := ⟨_, List.getElem?_eq_getElem (by rw [← HNB.out]; exact hJ2)⟩
      obtain rfl := HL.out r hr
      obtain ⟨rfl, rfl⟩ := HU.out v' hv'
      have r1 := rg_at OKa.out hr
      have r2 := rg_at OKb.out hv'
      have hs := HN.out.here r hr
      have Hr := Lib.hid hr
      have Hv := Lib.hid hv'
      clear hr hv'
      by_cases h1 : r.2 < v'.1
      · have e1 : (r.2 : Int) < (v'.1 : Int) := by omega
        have CN := Lib.hid (fun (W : World) => newInterval_any S r.2 W hs.2 r1.2)
        have HNk := Lib.hid (fun (s' : Nat) (hs : ∀ r', a[I + 1]? = some r' → s' = r'.1) => HN.out.keep (s' := s') OKa.out OKb.out Hr.out (fun z hz => by rw [Hv.out] at hz; cases hz; exact h1) hs)
        have HSd := Lib.hid HS.out.drew
        have f0 := HSd.out.cell 0 rfl 0 rfl
        have hd := HN.out.ok.many
        go_upto_region 23 with fail
        go_region_law (first
          | (go_simp; go_at_call 55; (with_reducible refine (CN.out _).mono ?_); rintro ed w4 ⟨rfl, hk⟩; have S4 := HSd.out.quiet hk; have f2 := S4.cell 0 rfl 0 rfl; have f3 := S4.free 0 rfl 0; have f6 := (S4.alloc (.cells #[.int .u16 (S : Int), .int .u16 ((r.2 - S : Nat) : Int)] 114)).cell 0 rfl 0 rfl; have f7 := (S4.alloc (.cells #[.int .u16 (S : Int), .int .u16 ((r.2 - S : Nat) : Int)] 114)).free 0 rfl 0)
          | (refine step_of_list rfl ?_; intro Q9 hQ9; refine wpList_append_ss rfl (.tmp 132) (.tmp 136) 110 rfl 114 iU (.agg #[.int .u16 (0 : Int), .int .u16 (0 : Int)]) 2 4 undIvs v1 v2 v3 v4 rfl (by decide) w [] [B H 112 [.slice A d.length c]] [] (.slice A d.length c) d.length (ivs d) rfl (S4.alloc _) ⟨w4.heap.size, 0, none⟩ 1 1 [.int .u16 (S : Int), .int .u16 ((r.2 - S : Nat) : Int)] rfl rfl (Blk.news (Blk.new _ _ _)) (by simp [Value.oneCell']) (by unfold maxLen; omega) (by omega) ?_; intro v5 w5 S5; refine hQ9 _ _ ?_; clear hQ9 Q9; obtain ⟨g5, c5, rfl, _, _⟩ := Own.shape (S5.get (A := O 2 114 v5 (d.length + 1) (ivs d ++ [.int .u16 (S : Int), .int .u16 ((r.2 - S : Nat) : Int)])) (by simp)) (by omega); have f8 := S5.cell 0 rfl 0 rfl; have f9 := S5.free 0 rfl 0)
          | fail)
        all_goals
          have S6 := Lib.hid (rc_push (SS.store (L := []) S5 0 (.slice (some ⟨g5, 0, none⟩) (d.length + 1) c5)))
          clear S4 f2 f3 f6 f7 f8 f9 S5
          have M6 := SS.mild S6.out
          by_cases hl : I + 1 < na
          · have e2 : ((I : Int) + 1) < (na : Int) := by omega
            obtain ⟨r', hr'⟩ : ∃ r, a[I + 1]? = some r := ⟨_, List.getElem?_eq_getElem (by rw [← HNA.out]; exact hl)⟩
            have HN2 := Lib.hid ((fun (r' : Nat × Nat) (hr' : a[I + 1]? = some r') => HNk.out r'.1 (fun z hz => by rw [hr'] at hz; cases hz; rfl)) r' hr')
            obtain ⟨z1, z2⟩ := HA.out (I + 1) r' hr'
            have r3 := rg_at OKa.out hr'
            have Hr' := Lib.hid hr'
            have a6 := M6.cell2 id a0
            have z3 := M6.cell2 id z1
            have z4 := M6.cell2 id z2
            clear hr' z1 z2
            go_wp2_with (first
              | (go_at_call 68; (with_reducible refine (LA.out r' _ r3).mono ?_); rintro ed w7 ⟨rfl, hk⟩; have S7 := Lib.hid (S6.out.quiet hk); clear hk)
              | fail)
            go_roundw
            case rel => exact ⟨I + 1, J, r'.1, _, d ++ [(S, r.2)], by go_num, rfl, rfl, HN2, Lib.hid (fun z hz => by rw [Hr'.out] at hz; cases hz; rfl), HU, S7⟩
            case measure => simp only [intOf]; have z8 := anI_le (r'.1 : Int) (v'.2 : Int); have z7 := anI_le (S : Int) (v'.2 : Int); omega
          · have e2 : ¬ ((I : Int) + 1) < (na : Int) := by omega
            have hnone : a[I + 1]? = none := List.getElem?_eq_none (by rw [← HNA.out]; omega)
            have HN2 := Lib.hid ((fun (hno : a[I + 1]? = none) => HNk.out S (fun z hz => by rw [hno] at hz; cases hz)) hnone)
            have Hno := Lib.hid hnone
            clear hnone
            go_wp2
            go_roundw
            case rel => exact ⟨I + 1, J, S, _, d ++ [(S, r.2)], by go_num, rfl, rfl, HN2, Lib.hid (fun z hz => by rw [Hno.out] at hz; cases hz), HU, S6⟩
            case measure => simp only [intOf]; have z8 := anI_le (S : Int) (v'.2 : Int); have z7 := anI_le (S : Int) (v'.2 : Int); omega
      · have e1 : ¬ (r.2 : Int) < (v'.1 : Int) := by omega
        by_cases h2 : v'.2 < S
        · have e2 : (v'.2 : Int) < (S : Int) := by omega
          have HN2 := Lib.hid (HN.out.pass Hv.out h2)
          by_cases hl : J + 1 < nb
          · have e3 : ((J : Int) + 1) < (nb : Int) := by omega
            obtain ⟨v2, hv2⟩ : ∃ r, b[J + 1]? = some r := ⟨_, List.getElem?_eq_getElem (by rw [← HNB.out]; exact hl)⟩
            obtain ⟨z1, z2⟩ := HB.out (J + 1) v2 hv2
            have r3 := rg_at OKb.out hv2
            have Hv2 := Lib.hid hv2
            have z3 := M.cell2 id z1
            have z4 := M.cell2 id z2
            clear hv2 z1 z2
            go_wp2_with (first
              | (go_at_call 68; (with_reducible refine (LA.out v2 _ r3).mono ?_); rintro ed w7 ⟨rfl, hk⟩; have S7 := Lib.hid (HS.out.quiet hk); clear hk)
              | fail)
            go_roundw
            case rel => exact ⟨I, J + 1, S, _, d, rfl, by go_num, rfl, HN2, HL, Lib.hid (fun z hz => by rw [Hv2.out] at hz; cases hz; exact ⟨rfl, rfl⟩), S7⟩
            case measure => simp only [intOf]; have z8 := anI_le (S : Int) (v2.2 : Int); have z7 := anI_le (S : Int) (v'.2 : Int); omega
          · have e3 : ¬ ((J : Int) + 1) < (nb : Int) := by omega
            have hnone : b[J + 1]? = none := List.getElem?_eq_none (by rw [← HNB.out]; omega)
            have Hno := Lib.hid hnone
            clear hnone
            go_wp2
            go_roundw
            case rel => exact ⟨I, J + 1, S, _, d, rfl, by go_num, rfl, HN2, HL, Lib.hid (fun z hz => by rw [Hno.out] at hz; cases hz), HS⟩
            case measure => simp only [intOf]; have z8 := anI_le (S : Int) (v'.2 : Int); have z7 := anI_le (S : Int) (v'.2 : Int); omega
        · have e2 : ¬ (v'.2 : Int) < (S : Int) := by omega
          by_cases h3 : S < v'.1
          · have e3 : (S : Int) < (v'.1 : Int) := by omega
            have e6 : IntKind.u16.wrap ((v'.1 : Int) - 1) = ((v'.1 - 1 : Nat) : Int) := (IntWalk.u16_in _ (by omega)).trans (by omega)
            have HD := Lib.hid (show anD d S v'.1 = d ++ [(S, v'.1 - 1)] from by unfold anD; rw [if_pos h3])
            have CN := Lib.hid (fun (W : World) => newInterval_any S (v'.1 - 1) W (by omega) (by omega))
            have HSd := Lib.hid HS.out.drew
            have f0 := HSd.out.cell 0 rfl 0 rfl
            have hd := HN.out.ok.many
            go_upto_region 15 with fail
            go_region_law (first
              | (go_simp; go_at_call 55; (with_reducible refine (CN.out _).mono ?_); rintro ed w4 ⟨rfl, hk⟩; have S4 := HSd.out.quiet hk; have f2 := S4.cell 0 rfl 0 rfl; have f3 := S4.free 0 rfl 0; have f6 := (S4.alloc (.cells #[.int .u16 (S : Int), .int .u16 ((v'.1 - 1 - S : Nat) : Int)] 114)).cell 0 rfl 0 rfl; have f7 := (S4.alloc (.cells #[.int .u16 (S : Int), .int .u16 ((v'.1 - 1 - S : Nat) : Int)] 114)).free 0 rfl 0)
              | (refine step_of_list rfl ?_; intro Q9 hQ9; refine wpList_append_ss rfl (.tmp 89) (.tmp 94) 110 rfl 114 iU (.agg #[.int .u16 (0 : Int), .int .u16 (0 : Int)]) 2 4 undIvs v1 v2 v3 v4 rfl (by decide) w [] [B H 112 [.slice A d.length c]] [] (.slice A d.length c) d.length (ivs d) rfl (S4.alloc _) ⟨w4.heap.size, 0, none⟩ 1 1 [.int .u16 (S : Int), .int .u16 ((v'.1 - 1 - S : Nat) : Int)] rfl rfl (Blk.news (Blk.new _ _ _)) (by simp [Value.oneCell']) (by unfold maxLen; omega) (by omega) ?_; intro v5 w5 S5; refine hQ9 _ _ ?_; clear hQ9 Q9; obtain ⟨g5, c5, rfl, _, _⟩ := Own.shape (S5.get (A := O 2 114 v5 (d.length + 1) (ivs d ++ [.int .u16 (S : Int), .int .u16 ((v'.1 - 1 - S : Nat) : Int)])) (by simp)) (by omega); have f8 := S5.cell 0 rfl 0 rfl; have f9 := S5.free 0 rfl 0)
              | fail)
            all_goals
              have S6 := Lib.hid (rc_push (SS.store (L := []) S5 0 (.slice (some ⟨g5, 0, none⟩) (d.length + 1) c5)))
              clear S4 f2 f3 f6 f7 f8 f9 S5
              have hdd : anD d S v'.1 = d ++ [(S, v'.1 - 1)] := HD.out
              by_cases h4 : v'.2 < r.2
              · have e4 : (v'.2 : Int) < (r.2 : Int) := by omega
                have e5 : IntKind.u16.wrap ((v'.2 : Int) + 1) = ((v'.2 + 1 : Nat) : Int) := (IntWalk.u16_in _ (by omega)).trans (by omega)
                have HN2 := Lib.hid (HN.out.cut OKa.out OKb.out Hr.out Hv.out (by omega) (by omega) h4)
                rw [hdd] at HN2
                clear hdd
                go_wp2
                go_roundw
                case rel => exact ⟨I, J, v'.2 + 1, _, d ++ [(S, v'.1 - 1)], rfl, rfl, by go_num, HN2, HL, HU, S6⟩
                case measure => simp only [intOf]; have z8 : anI ((v'.2 : Int) + 1) (v'.2 : Int) = 0 := anI_nil (by omega); have z9 : anI (((v'.2 + 1 : Nat) : Int)) (v'.2 : Int) = 0 := anI_nil (by omega); have z7 : anI (S : Int) (v'.2 : Int) = 1 := anI_one (by omega); omega
              · have e4 : ¬ (v'.2 : Int) < (r.2 : Int) := by omega
                have HNx := Lib.hid (fun (s' : Nat) (hs : ∀ r', a[I + 1]? = some r' → s' = r'.1) => HN.out.next (s' := s') OKa.out OKb.out Hr.out Hv.out (by omega) (by omega) hs)
                rw [hdd] at HNx
                clear hdd
                have M6 := SS.mild S6.out
                by_cases hl : I + 1 < na
                · have e2 : ((I : Int) + 1) < (na : Int) := by omega
                  obtain ⟨r', hr'⟩ : ∃ r, a[I + 1]? = some r := ⟨_, List.getElem?_eq_getElem (by rw [← HNA.out]; exact hl)⟩
                  have HN2 := Lib.hid ((fun (r' : Nat × Nat) (hr' : a[I + 1]? = some r') => HNx.out r'.1 (fun z hz => by rw [hr'] at hz; cases hz; rfl)) r' hr')
                  obtain ⟨z1, z2⟩ := HA.out (I + 1) r' hr'
                  have r3 := rg_at OKa.out hr'
                  have Hr' := Lib.hid hr'
                  have a6 := M6.cell2 id a0
                  have z3 := M6.cell2 id z1
                  have z4 := M6.cell2 id z2
                  clear hr' z1 z2
                  go_wp2_with (first
                    | (go_at_call 68; (with_reducible refine (LA.out r' _ r3).mono ?_); rintro ed w7 ⟨rfl, hk⟩; have S7 := Lib.hid (S6.out.quiet hk); clear hk)
                    | fail)
                  go_roundw
                  case rel => exact ⟨I + 1, J, r'.1, _, d ++ [(S, v'.1 - 1)], by go_num, rfl, rfl, HN2, Lib.hid (fun z hz => by rw [Hr'.out] at hz; cases hz; rfl), HU, S7⟩
                  case measure => simp only [intOf]; have z8 := anI_le (r'.1 : Int) (v'.2 : Int); have z7 := anI_le (S : Int) (v'.2 : Int); omega
                · have e2 : ¬ ((I : Int) + 1) < (na : Int) := by omega
                  have hnone : a[I + 1]? = none := List.getElem?_eq_none (by rw [← HNA.out]; omega)
                  have HN2 := Lib.hid ((fun (hno : a[I + 1]? = none) => HNx.out S (fun z hz => by rw [hno] at hz; cases hz)) hnone)
                  have Hno := Lib.hid hnone
                  clear hnone
                  go_wp2
                  go_roundw
                  case rel => exact ⟨I + 1, J, S, _, d ++ [(S, v'.1 - 1)], by go_num, rfl, rfl, HN2, Lib.hid (fun z hz => by rw [Hno.out] at hz; cases hz), HU, S6⟩
                  case measure => simp only [intOf]; have z8 := anI_le (S : Int) (v'.2 : Int); have z7 := anI_le (S : Int) (v'.2 : Int); omega
          · have e3 : ¬ (S : Int) < (v'.1 : Int) := by omega
            have HD := Lib.hid (show anD d S v'.1 = d from by unfold anD; rw [if_neg h3])
            have hdd : anD d S v'.1 = d := HD.out
            by_cases h4 : v'.2 < r.2
            · have e4 : (v'.2 : Int) < (r.2 : Int) := by omega
              have e5 : IntKind.u16.wrap ((v'.2 : Int) + 1) = ((v'.2 + 1 : Nat) : Int) := (IntWalk.u16_in _ (by omega)).trans (by omega)
              have HN2 := Lib.hid (HN.out.cut OKa.out OKb.out Hr.out Hv.out (by omega) (by omega) h4)
              rw [hdd] at HN2
              clear hdd
              go_wp2
              go_roundw
              case rel => exact ⟨I, J, v'.2 + 1, _, d, rfl, rfl, by go_num, HN2, HL, HU, HS⟩
              case measure => simp only [intOf]; have z8 : anI ((v'.2 : Int) + 1) (v'.2 : Int) = 0 := anI_nil (by omega); have z9 : anI (((v'.2 + 1 : Nat) : Int)) (v'.2 : Int) = 0 := anI_nil (by omega); have z7 : anI (S : Int) (v'.2 : Int) = 1 := anI_one (by omega); omega
            · have e4 : ¬ (v'.2 : Int) < (r.2 : Int) := by omega
              have HNx := Lib.hid (fun (s' : Nat) (hs : ∀ r', a[I + 1]? = some r' → s' = r'.1) => HN.out.next (s' := s') OKa.out OKb.out Hr.out Hv.out (by omega) (by omega) hs)
              rw [hdd] at HNx
              clear hdd
              have M6 := SS.mild HS.out
              by_cases hl : I + 1 < na
              · have e2 : ((I : Int) + 1) < (na : Int) := by omega
                obtain ⟨r', hr'⟩ : ∃ r, a[I + 1]? = some r := ⟨_, List.getElem?_eq_getElem (by rw [← HNA.out]; exact hl)⟩
                have HN2 := Lib.hid ((fun (r' : Nat × Nat) (hr' : a[I + 1]? = some r') => HNx.out r'.1 (fun z hz => by rw [hr'] at hz; cases hz; rfl)) r' hr')
                obtain ⟨z1, z2⟩ := HA.out (I + 1) r' hr'
                have r3 := rg_at OKa.out hr'
                have Hr' := Lib.hid hr'
                have a6 := M6.cell2 id a0
                have z3 := M6.cell2 id z1
                have z4 := M6.cell2 id z2
                clear hr' z1 z2
                go_wp2_with (first
                  | (go_at_call 68; (with_reducible refine (LA.out r' _ r3).mono ?_); rintro ed w7 ⟨rfl, hk⟩; have S7 := Lib.hid (HS.out.quiet hk); clear hk)
                  | fail)
                go_roundw
                case rel => exact ⟨I + 1, J, r'.1, _, d, by go_num, rfl, rfl, HN2, Lib.hid (fun z hz => by rw [Hr'.out] at hz; cases hz; rfl), HU, S7⟩
                case measure => simp only [intOf]; have z8 := anI_le (r'.1 : Int) (v'.2 : Int); have z7 := anI_le (S : Int) (v'.2 : Int); omega
              · have e2 : ¬ ((I : Int) + 1) < (na : Int) := by omega
                have hnone : a[I + 1]? = none := List.getElem?_eq_none (by rw [← HNA.out]; omega)
                have HN2 := Lib.hid ((fun (hno : a[I + 1]? = none) => HNx.out S (fun z hz => by rw [hno] at hz; cases hz)) hnone)
                have Hno := Lib.hid hnone
                clear hnone
                go_wp2
                go_roundw
                case rel => exact ⟨I + 1, J, S, _, d, by go_num, rfl, rfl, HN2, Lib.hid (fun z hz => by rw [Hno.out] at hz; cases hz), HU, HS⟩
                case measure => simp only [intOf]; have z8 := anI_le (S : Int) (v'.2 : Int); have z7 := anI_le (S : Int) (v'.2 : Int); omega
    · by_cases hI2 : I < na
      · have j1 : (I : Int) < (na : Int) := by omega
        have j2 : ¬ (J : Int) < (nb : Int) := by omega
        have hJe : J = nb := by omega
        obtain ⟨r, hr⟩ : ∃ r, a[I]? = some r := ⟨_, List.getElem?_eq_getElem (by rw [← HNA.out]; exact hI2)⟩
        obtain rfl := HL.out r hr
        have r1 := rg_at OKa.out hr
        have hs := HN.out.here r hr
        have Hr := Lib.hid hr
        clear hr
        have CN := Lib.hid (fun (W : World) => newInterval_any S r.2 W hs.2 r1.2)
        have HRR := Lib.hid (show RgOK 65536 (d ++ ((S, r.2) :: a.drop (I + 1))) ∧ ∀ x, inR (d ++ ((S, r.2) :: a.drop (I + 1))) x ↔ inR a x ∧ ¬ inR b x from by
          have hn := HN.out
          rw [hJe, HNB.out] at hn
          exact hn.rest OKa.out Hr.out)
        have HSd := Lib.hid HS.out.drew
        have f0 := HSd.out.cell 0 rfl 0 rfl
        have hd := HN.out.ok.many
        go_upto_region 34 with fail
        go_region_law (first
          | (go_simp; go_at_call 55; (with_reducible refine (CN.out _).mono ?_); rintro ed w4 ⟨rfl, hk⟩; have S4 := HSd.out.quiet hk; have f2 := S4.cell 0 rfl 0 rfl; have f3 := S4.free 0 rfl 0; have f6 := (S4.alloc (.cells #[.int .u16 (S : Int), .int .u16 ((r.2 - S : Nat) : Int)] 114)).cell 0 rfl 0 rfl; have f7 := (S4.alloc (.cells #[.int .u16 (S : Int), .int .u16 ((r.2 - S : Nat) : Int)] 114)).free 0 rfl 0)
          | (refine step_of_list rfl ?_; intro Q9 hQ9; refine wpList_append_ss rfl (.tmp 193) (.tmp 197) 110 rfl 114 iU (.agg #[.int .u16 (0 : Int), .int .u16 (0 : Int)]) 2 4 undIvs v1 v2 v3 v4 rfl (by decide) w [] [B H 112 [.slice A d.length c]] [] (.slice A d.length c) d.length (ivs d) rfl (S4.alloc _) ⟨w4.heap.size, 0, none⟩ 1 1 [.int .u16 (S : Int), .int .u16 ((r.2 - S : Nat) : Int)] rfl rfl (Blk.news (Blk.new _ _ _)) (by simp [Value.oneCell']) (by unfold maxLen; omega) (by omega) ?_; intro v5 w5 S5; refine hQ9 _ _ ?_; clear hQ9 Q9; obtain ⟨g5, c5, rfl, _, _⟩ := Own.shape (S5.get (A := O 2 114 v5 (d.length + 1) (ivs d ++ [.int .u16 (S : Int), .int .u16 ((r.2 - S : Nat) : Int)])) (by simp)) (by omega); have f8 := S5.cell 0 rfl 0 rfl; have f9 := S5.free 0 rfl 0)
          | fail)
        all_goals
          have S6 := Lib.hid (rc_push (SS.store (L := []) S5 0 (.slice (some ⟨g5, 0, none⟩) (d.length + 1) c5)))
          clear S4 f2 f3 f6 f7 f8 f9 S5
          generalize (w5.setCell ⟨H, 0, none⟩ (.slice (some ⟨g5, 0, none⟩) (d.length + 1) c5)) = w6 at *
          by_cases hl : I + 1 < na
          · have e2 : ((I : Int) + 1) < (na : Int) := by omega
            have q1 : IntKind.i64.wrap ((I : Int) + 1) = (I : Int) + 1 := IntWalk.i64_in _ (by omega)
            have S8 := Lib.hid (show SS w [] w6.drew ([B H 112 [.slice (some ⟨g5, 0, none⟩) (d.length + 1) c5]] ++ O 2 114 (.slice (some ⟨g5, 0, none⟩) (d.length + 1) c5) (d.length + 1) (ivs (d ++ [(S, r.2)])) :: []) from by
              have := S6.out.drew
              unfold RC at this
              rw [List.length_append] at this
              exact this)
            have M8 := SS.mild S8.out
            have a8 := M8.cell2 id a0
            have g0 := S8.out.cell 0 rfl 0 rfl
            have g1 := S8.out.free 0 rfl 0
            have HX := Lib.hid (ivs_src (w := w6.drew) (rs := a) (g := ga) (c := ca) (k := I + 1) (by rw [← HNA.out]; exact hl) (by rw [← HNA.out]; exact hca) (fun i z hz => ⟨M8.cell2 id (HA.out i z hz).1, M8.cell2 id (HA.out i z hz).2⟩))
            have s1 := fun (W : World) => run_slice_from (P := Tryz.prog) W undIvs szIv ga 0 na ca (I + 1) .i64 ((I : Int) + 1) (by omega) (by omega)
            have HLn := Lib.hid (show (ivs (a.drop (I + 1))).length = (na - (I + 1)) * 2 from by rw [ivs_length, List.length_drop, ← HNA.out])
            clear S6 f0
            go_upto_region 37 with fail
            go_region_law (first
              | (refine step_of_list rfl ?_; intro Q9 hQ9; refine wpList_append_ss rfl (.tmp 210) (.tmp 216) 110 rfl 114 iU (.agg #[.int .u16 (0 : Int), .int .u16 (0 : Int)]) 2 4 undIvs v1 v2 v3 v4 rfl (by decide) w [] [B H 112 [.slice (some ⟨g5, 0, none⟩) (d.length + 1) c5]] [] (.slice (some ⟨g5, 0, none⟩) (d.length + 1) c5) (d.length + 1) (ivs (d ++ [(S, r.2)])) rfl S8.out (tlA ga 0 (I + 1) ca 2) (na - (I + 1)) (ca - (I + 1)) (ivs (a.drop (I + 1))) rfl HLn.out HX.out (ivs_one _) (by unfold maxLen; omega) (by omega) ?_; intro v5 w7 S9; refine hQ9 _ _ ?_; clear hQ9 Q9; obtain ⟨g9, c9, rfl, _, _⟩ := Own.shape (S9.get (A := O 2 114 v5 (d.length + 1 + (na - (I + 1))) (ivs (d ++ [(S, r.2)]) ++ ivs (a.drop (I + 1)))) (by simp)) (by omega); have f8 := S9.cell 0 rfl 0 rfl; have f9 := S9.free 0 rfl 0)
              | fail)
            all_goals
              have ST := rc_pushes (m := d ++ [(S, r.2)]) (l := a.drop (I + 1)) (by rw [List.length_append, List.length_drop, ← HNA.out]; rfl) (SS.store (L := []) S9 0 (.slice (some ⟨g9, 0, none⟩) (d.length + 1 + (na - (I + 1))) c9))
              have STh := Lib.hid ST
              clear ST S9
              go_wp2
              go_ret
              have e9 : d ++ [(S, r.2)] ++ a.drop (I + 1) = d ++ ((S, r.2) :: a.drop (I + 1)) := by simp
              have h9 := STh.out
              rw [e9] at h9
              exact ⟨H, rfl, .slice (some ⟨g9, 0, none⟩) (d.length + 1 + (na - (I + 1))) c9, d ++ ((S, r.2) :: a.drop (I + 1)), HRR.out.1, HRR.out.2, h9⟩
          · have e2 : ¬ ((I : Int) + 1) < (na : Int) := by omega
            have e9 : a.drop (I + 1) = [] := List.drop_eq_nil_of_le (by rw [← HNA.out]; omega)
            rw [e9] at HRR
            go_wp2
            go_ret
            exact ⟨H, rfl, .slice (some ⟨g5, 0, none⟩) (d.length + 1) c5, d ++ [(S, r.2)], HRR.out.1, HRR.out.2, S6.out⟩
      · obtain rfl : I = na := by omega
        go_wp2
        go_ret
        refine ⟨H, _, d, rfl, HN.out.ok, ?_, HS.out⟩
        have hn := HN.out
        rw [HNA.out] at hn
        exact hn.done
end Go.Proofs
