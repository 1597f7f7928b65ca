/-
  spec.Parts: the parts of a set.
-/
import Derived.Test.YtpnnbomjbfjgpaaGreatDoorKPp
import Derived.Deep.DeepCutAuto
import Derived.Deep.RegionHeld3
import Derived.Deep.AppendLies
namespace Go.Proofs
open Go.RowKit Go.Roar
theorem infoRangeP : (Tryz.prog.info? 40).map (fun i => (i.zero, i.size, i.bytes)) = some (some (.agg #[.int .i64 0, .int .i64 0]), 2, 16) := by kernel_rfl
theorem undSetP : Tryz.prog.underlying 24 = some (.slice 40) := by kernel_rfl
theorem infoPartP : (Tryz.prog.info? 32).map (fun i => (i.zero, i.size, i.bytes)) = some (some (.agg #[.int .i64 0, .slice none 0 0]), 2, 32) := by kernel_rfl
theorem undPartsP : Tryz.prog.underlying 29 = some (.slice 32) := by kernel_rfl
theorem cell_two_atP (w : World) (x y : Value) (t : TypeId) (q : Nat) (hq : q = w.heap.size) : ∀ j u, [x, y][j]? = some u → (w.alloc (.cells #[x, y] t)).cell? ((⟨q, 0, none⟩ : Addr).add j) = some u := by
  subst hq; exact cell_two_new w x y t
theorem grow_kept {wA w4 : World} {v v' : Value} (hg : wA.grownBy w4 v.ownBlock) (hat : v'.ownBlock = v.ownBlock ∨ v'.ownBlock = some wA.heap.size) : Kept (· ∈ blkOf v) wA w4 ∧ ∀ b ∈ blkOf v', b ∈ blkOf v ∨ wA.heap.size ≤ b := by
  refine ⟨Kept.grown (Kept.refl _ _) hg (fun k hk _ => by unfold blkOf; rw [hk]; simp), fun b hb => ?_⟩
  rcases hat with h | h
  · exact .inl (by unfold blkOf at hb ⊢; rw [← h]; exact hb)
  · exact .inr (by unfold blkOf at hb; rw [h] at hb; simp at hb; exact Nat.le_of_eq hb.symm)
theorem shr16 (x : Nat) : (x : Int) >>> 16 = ((x / 65536 : Nat) : Int) := by
  rw [Int.shiftRight_eq_div_pow]; simp
theorem two_cells (w : World) (t : TypeId) {x y x' y' : Int} (hx : x = x') (hy : y = y') : w.alloc (.cells #[.int .i64 x, .int .i64 y] t) = w.alloc (.cells #[.int .i64 x', .int .i64 y'] t) := by rw [hx, hy]

set_option maxRecDepth 100000 in
set_option maxHeartbeats 4000000 in
theorem parts_any : PartsC := by
  intro u s w hu hr hl
  obtain ⟨iR, zz1, zz2, zz3, zz4⟩ := info_parts infoRangeP
  obtain ⟨iP, q1, q2, q3, q4⟩ := info_parts infoPartP
  obtain ⟨B, d, rfl, hu⟩ := hu
  have Hu := Lib.hid hu
  have Hr := Lib.hid hr
  clear hu hr
  generalize hln : s.length = nr at *
  have Hl := Lib.hid hln
  clear hln
  have P0 := Lib.hid (PO.start w)
  have M0 : Hid (Mild w (w.alloc (.cells #[] 32))) := Lib.hid ((Kept.refl _ _).alloc _)
  go_enter Tryz.func6, Tryz.ntmps6
  go_wp2_with fail
  go_loopw [12, 3] (fun i v wr => ∃ (k : Nat) (us : List Value), i = .int .i64 k ∧ k ≤ nr ∧ Hid (Mild w wr) ∧ Hid (PO wr w.heap.size v (((s.take k).flatMap pieces).foldl addPiece []) us)) (fun i _ _ => nr - (intOf i).toNat)
  case atStart => exact ⟨0, [], rfl, Nat.zero_le _, M0, P0⟩
  case round =>
    obtain ⟨k, us, rfl, hk, Hm, Hp⟩ := hrel
    by_cases hlt : k < nr
    · obtain ⟨r, hx⟩ : ∃ r, s[k]? = some r := ⟨_, List.getElem?_eq_getElem (by rw [Hl.out]; exact hlt)⟩
      obtain ⟨g, rfl, a1, a2⟩ := Hu.out k r hx
      obtain ⟨r1, r2⟩ := Hr.out.1 r (List.mem_of_getElem? hx)
      have ca := Hm.out.cell2 id a1
      have cb := Hm.out.cell2 id a2
      have i1 : (k : Int) < (nr : Int) := by omega
      have Hend := Lib.hid (upto_end hx r1)
      have Hst := Lib.hid (upto_step s k r)
      have Hsz := Lib.hid (fun (j : Nat) (hj : j ≤ 65536) => upto_size (s := s) (k := k) (r := r) (j := j) (fun x hx => (Hr.out.1 x hx).2) hj (by rw [Hl.out]; exact hl))
      have Hnb := Lib.hid (Blk.new wr 40 [.int .i64 (r.1 : Int), .int .i64 (r.2 : Int)])
      have Hma := Lib.hid (Hm.out.alloc (.cells #[.int .i64 (r.1 : Int), .int .i64 (r.2 : Int)] 40))
      have Hp2 := Lib.hid (Hp.out.mild ((Kept.refl _ _).alloc (.cells #[.int .i64 (r.1 : Int), .int .i64 (r.2 : Int)] 40)))
      have Hq := Lib.hid (show (∀ b ∈ blkOf _, b ≠ wr.heap.size) ∧ ∀ u ∈ us, ∀ b ∈ blkOf u, b ≠ wr.heap.size from ⟨fun b hb => Nat.ne_of_lt (Hp.out.own.lt b hb), fun u hu b hb => Nat.ne_of_lt (Hp.out.lt u hu b hb)⟩)
      have Hq0 := Lib.hid (show w.heap.size ≤ wr.heap.size from Hm.out.size)
      have f1 : (r.1 : Int) >>> 16 = ((r.1 / 65536 : Nat) : Int) := shr16 r.1
      have f2 : (r.2 : Int) >>> 16 = ((r.2 / 65536 : Nat) : Int) := shr16 r.2
      clear a1 a2 hx Hp
      have q1' : r.1 / 65536 ≤ r.2 / 65536 := by omega
      have q2' : r.2 / 65536 < 65536 := by omega
      go_wp2_with fail
      generalize hq : wr.heap.size = q at *
      clear hq
      go_loopw [6, 3] (fun y v wx => ∃ (j : Nat) (us : List Value), y = .int .i64 j ∧ r.1 / 65536 ≤ j ∧ j ≤ r.2 / 65536 + 1 ∧ Hid (Mild w wx) ∧ Hid (PO wx w.heap.size v ((upto s k r j).foldl addPiece []) us) ∧ Hid (Blk wx q 40 [.int .i64 (r.1 : Int), .int .i64 (r.2 : Int)]) ∧ Hid ((∀ b ∈ blkOf v, b ≠ q) ∧ ∀ u ∈ us, ∀ b ∈ blkOf u, b ≠ q)) (fun y _ _ => r.2 / 65536 + 1 - (intOf y).toNat)
      case atStart => exact ⟨r.1 / 65536, us, by simp, Nat.le_refl _, by omega, Hma, by rw [upto_start]; exact Hp2, Hnb, Hq⟩
      case round =>
        obtain ⟨j, us, rfl, j1, j2, Hm2, Hp2, Hb2, Hq2⟩ := hrel
        have g0 := Hb2.out.cell 0
        have g1 := Hb2.out.cell 1
        simp only [List.getElem?_cons_zero, List.getElem?_cons_succ] at g0 g1
        by_cases hjr : j ≤ r.2 / 65536
        · have i2 : decide ((j : Int) ≤ (r.2 : Int) / 65536) = true := by simp; omega
          have hst := Hst.out j j1
          obtain ⟨hz1, hz2⟩ := Hsz.out j (by omega)
          generalize (upto s k r j).foldl addPiece [] = out at *
          obtain ⟨A, c, rfl⟩ := Hp2.out.own.form
          obtain ⟨a0, ha0⟩ : ∃ a0, a0 = r.1 - j * 65536 := ⟨_, rfl⟩
          obtain ⟨b0, hb0⟩ : ∃ b0, b0 = min (r.2 - j * 65536) 65535 := ⟨_, rfl⟩
          have hpc : pieceAt r j = (j, (a0, b0)) := by rw [ha0, hb0]; rfl
          rw [hpc] at hst
          have hst2 := Lib.hid hst
          have Ha0 := Lib.hid ha0
          have Hb0 := Lib.hid hb0
          have Hz1 := Lib.hid hz1
          have Hz2 := Lib.hid hz2
          have hab : a0 ≤ 65535 ∧ b0 ≤ 65535 := by omega
          clear hst hpc ha0 hb0 hz1 hz2
          go_upto_region 8 with fail
          go_cut [7] (fun s7 wx => s7 = .pointer (some ⟨wr.heap.size, 0, none⟩) ∧ wx = wr.alloc (.cells #[.int .i64 (a0 : Int), .int .i64 (b0 : Int)] 40))
          case first =>
            have e1 := Ha0.out
            have e2 := Hb0.out
            clear Ha0 Hb0
            go_wp2_with fail
            all_goals
              go_meet
              case rel => exact ⟨rfl, two_cells _ _ (by omega) (by omega)⟩
          case rest =>
            obtain ⟨rfl, rfl⟩ := hcut
            have kS : Mild wr (wr.alloc (.cells #[.int .i64 (a0 : Int), .int .i64 (b0 : Int)] 40)) := (Kept.refl _ _).alloc _
            have hsn := Blk.new wr 40 [.int .i64 (a0 : Int), .int .i64 (b0 : Int)]
            have HPS := Lib.hid (Hp2.out.mild kS)
            have HMS := Lib.hid (Hm2.out.trans kS)
            have HBS := Lib.hid (Hb2.out.kept kS id)
            have Hlt := Lib.hid Hp2.out
            have Hqz := Lib.hid Hb2.out.lt
            clear kS Hp2 Hm2 Hb2 g0 g1
            have HzS := Lib.hid (show wr.heap.size < (wr.alloc (.cells #[.int .i64 (a0 : Int), .int .i64 (b0 : Int)] 40)).heap.size from hsn.lt)
            have s0 := hsn.cell 0
            have s1 := hsn.cell 1
            simp only [List.getElem?_cons_zero, List.getElem?_cons_succ] at s0 s1
            generalize wr.alloc (Obj.cells #[Value.int IntKind.i64 (a0 : Int), Value.int IntKind.i64 (b0 : Int)] 40) = WS at *
            generalize wr.heap.size = z at *
            clear hsn Hlt
            by_cases hon : ∃ m l, out = m ++ [(j, l)]
            · obtain ⟨m, l, rfl⟩ := hon
              have HO := Lib.hid HPS.out.own
              generalize hol : (m ++ [(j, l)]).length = ol at *
              have Hol := Lib.hid hol
              have hol2 := Hz1.out
              have hml : ol = m.length + 1 := by rw [← hol]; simp
              clear hol
              obtain ⟨us0, u, hus⟩ : ∃ us0 u, us = us0 ++ [u] := by
                rcases List.eq_nil_or_concat us with h | ⟨us0, u, h⟩
                · have := HPS.out.len; rw [h, Hol.out] at this; simp at this; omega
                · exact ⟨us0, u, by rw [h, List.concat_eq_append]⟩
              subst hus
              have hul : us0.length = m.length := by have := HPS.out.len; rw [Hol.out] at this; simp at this; omega
              obtain ⟨g2, k2, rr2, hv2, _, _, hb2⟩ := HO.out.open (by omega)
              obtain ⟨rfl, rfl⟩ : A = some ⟨g2, 0, none⟩ ∧ c = ol + k2 := by simp at hv2; exact hv2
              have hpa := pcs_at (qs := m ++ [(j, l)]) (us := us0 ++ [u]) (i := m.length) (q := (j, l)) (u := u) (by simp) (by rw [← hul]; simp)
              have e1 : (pcs (m ++ [(j, l)]) (us0 ++ [u]) ++ rr2)[m.length * 2]? = some (.int .i64 (j : Int)) := by rw [List.getElem?_append_left (List.getElem?_eq_some_iff.1 hpa.1).1, hpa.1]
              have e2 : (pcs (m ++ [(j, l)]) (us0 ++ [u]) ++ rr2)[m.length * 2 + 1]? = some u := by rw [List.getElem?_append_left (List.getElem?_eq_some_iff.1 hpa.2).1, hpa.2]
              have c0 := (hb2.cell (m.length * 2)).trans e1
              have c1 := (hb2.cell (m.length * 2 + 1)).trans e2
              have HU := Lib.hid (HPS.out.each m.length (j, l) u (by simp) (by rw [← hul]; simp))
              have hll : l.length ≤ 66000000 := Hz2.out (j, l) (by simp)
              have Hoff := Lib.hid (HPS.out.off u (by simp))
              have HB2 := Lib.hid hb2
              have He2 := Lib.hid e2
              have Hmm := Lib.hid (show ∃ ml, ml = m.length from ⟨_, rfl⟩)
              have Hone := Lib.hid (addPiece_on m j l (j, (a0, b0)) rfl)
              have hng : g2 ∉ blkOf u := fun h => HPS.out.off u (by simp) g2 h (by simp)
              have Hng := Lib.hid hng
              obtain ⟨ml, hmm⟩ : ∃ ml, ml = m.length := ⟨_, rfl⟩
              rw [← hmm] at c0 c1 He2 hml
              have Hml := Lib.hid hmm
              obtain ⟨ll, hll2⟩ : ∃ ll, ll = l.length := ⟨_, rfl⟩
              obtain ⟨UA, uc, rfl⟩ := HU.out.form
              dsimp only at HU c1 HO HB2 He2 Hoff Hng HPS Hq2 hng e2
              rw [← hll2] at HU c1 HO HB2 He2 Hoff Hng HPS Hq2 hll
              have Hll := Lib.hid hll2
              have j0 : 0 < ol := by omega
              have j1 : (ol : Int) - 1 = (ml : Int) := by omega
              have j3 : (ml : Int) < (ol : Int) := by omega
              have j4 : IntKind.i64.wrap (ml : Int) = (ml : Int) := IntWalk.i64_in _ (by omega)
              clear hv2 hpa e1 e2 hb2 hng hul hmm hll2
              have Hml2 := Lib.hid hml
              clear hml
              go_wp2_with fail
              have kW1 : Mild WS (WS.alloc (.cells #[.int .i64 (a0 : Int), .int .i64 (b0 : Int)] 40)).drew := ((Kept.refl _ _).alloc _).drew
              have d1 := kW1.cell2 id c1
              clear kW1
              go_region_law (refine step_append_lies _ (by rfl) _ _ _ (by rfl) 0 40 iR (.agg #[.int .i64 0, .int .i64 0]) 2 16 undSetP zz1 zz2 zz3 zz4 rfl (by omega) (.slice UA ll uc) ll (rcs l) (by rfl) (by first | exact (Own_drew (HU.out.alloc _)).toRow | exact ((Own_drew HU.out).alloc _).toRow) ⟨WS.heap.size, 0, none⟩ 1 1 [.int .i64 (a0 : Int), .int .i64 (b0 : Int)] (by rfl) (by rfl) (cell_two_new WS _ _ _) (by intro u hu; simp at hu; rcases hu with rfl | rfl <;> rfl) (by omega) (by unfold maxLen; omega) (by omega) (Nat.zero_le _) _ rfl ?_; intro g5 c5 w5 hown5 hgrow5 hat5 hlt5; have k5 : Kept (fun b => b ∈ blkOf (.slice UA ll uc)) _ w5 := Kept.grown (Kept.refl _ _) hgrow5 (fun kk hkk _ => by unfold blkOf; rw [hkk]; simp); have b5 : Blk w5 g2 32 _ := Blk.kept (HB2.out.alloc (.cells #[.int .i64 (a0 : Int), .int .i64 (b0 : Int)] 40)).drew k5 Hng.out; have s5 := (b5.cell (ml * 2 + 1)).trans He2.out; have f5 := b5.free (ml * 2 + 1))
              all_goals go_wp2_with fail
              all_goals
                have kA : Mild WS (WS.alloc (.cells #[.int .i64 (a0 : Int), .int .i64 (b0 : Int)] 40)).drew := ((Kept.refl _ _).alloc _).drew
                have zA := kA.size
                have zS := HzS.out
                have hqz := Hqz.out
                have own5 := Own.ofRow hown5
                have hat' : ∀ b ∈ blkOf (.slice (some ⟨g5, 0, none⟩) (ll + 1) c5), b ∈ blkOf (.slice UA ll uc) ∨ (WS.alloc (.cells #[.int .i64 (a0 : Int), .int .i64 (b0 : Int)] 40)).drew.heap.size ≤ b := fun b hb => by
                  simp at hb; subst hb
                  rcases hat5 with h | h
                  · exact .inl (by unfold blkOf; rw [h]; simp)
                  · exact .inr (Nat.le_of_eq h.symm)
                have hpo := PO.grow (r := (a0, b0)) HPS.out kA k5 (by rw [← Hll.out]; exact own5) hat' HMS.out.size
                rw [← Hml.out, ← Hone.out, ← hst2.out] at hpo
                have hg2b := HPS.out.above.1 g2 (by simp)
                have hmi : Mild w (w5.setCell ⟨g2, ml * 2 + 1, none⟩ (.slice (some ⟨g5, 0, none⟩) (ll + 1) c5)) := Kept.setCell (p := ⟨g2, ml * 2 + 1, none⟩) (Kept.then (HMS.out.trans kA) k5 (fun b hb hv => absurd (HPS.out.above.2 _ (by simp) b hv) (by omega))) (fun h => absurd h (by show ¬ g2 < _; omega)) _
                have hbq := ((HBS.out.kept kA id).kept k5 (fun h => Hq2.out.2 _ (by simp) q h rfl)).set_ne (fun h => Hq2.out.1 g2 (by simp) h.symm) (ml * 2 + 1) (.slice (some ⟨g5, 0, none⟩) (ll + 1) c5)
                have Hqn := Lib.hid (show (∀ b ∈ blkOf (.slice (some ⟨g2, 0, none⟩) ol (ol + k2)), b ≠ q) ∧ ∀ u ∈ us0 ++ [Value.slice (some ⟨g5, 0, none⟩) (ll + 1) c5], ∀ b ∈ blkOf u, b ≠ q from ⟨Hq2.out.1, fun u hu b hb => by
                  rcases List.mem_append.1 hu with hu | hu
                  · exact Hq2.out.2 u (by simp [hu]) b hb
                  · simp at hu; subst hu
                    rcases hat' b hb with h | h
                    · exact Hq2.out.2 _ (by simp) b h
                    · omega⟩)
                have Hpo := Lib.hid hpo
                have Hmi := Lib.hid hmi
                have Hbq := Lib.hid hbq
                clear hpo hmi hbq hqz zS hat' own5 kA zA hown5 hgrow5 hat5 b5 s5 f5 k5
                go_roundw
                case rel => exact ⟨j + 1, _, by go_num, by omega, by omega, Hmi, Hpo, Hbq, Hqn⟩
                case measure => simp only [intOf]; omega
            · have Hnw := Lib.hid (addPiece_new (out := out) (p := (j, (a0, b0))) (fun m q e => fun hq => hon ⟨m, q.2, by rw [e]; congr 2; exact Prod.ext hq rfl⟩))
              have HO := Lib.hid HPS.out.own
              generalize hol : out.length = ol at *
              have Hol := Lib.hid hol
              have hol2 := Hz1.out
              clear hol
              by_cases h0 : ol = 0
              · subst h0
                go_wp2_with (first
                  | (at_builtin; refine wpList_append_own_at _ rfl _ _ 29 rfl 0 32 iP (.agg #[.int .i64 0, .slice none 0 0]) 2 32 undPartsP q1 q2 q3 q4 rfl (by decide) _ 0 (pcs out us) rfl ((HO.out.alloc _).alloc _).toRow ⟨WS.heap.size + 1, 0, none⟩ 1 1 [.int .i64 (j : Int), .slice (some ⟨WS.heap.size, 0, none⟩) 1 1] rfl rfl (cell_two_atP _ _ _ _ _ (by simp)) (by intro u hu; simp at hu; rcases hu with rfl | rfl <;> rfl) (by unfold maxLen; omega) (by omega) (Nat.zero_le _) ?_; intro v' w4 hown' hgrow hnil hat))
                have own4 := Own.ofRow hown'
                have kA : Mild WS ((WS.alloc (.cells #[.int .i64 (a0 : Int), .int .i64 (b0 : Int)] 40)).alloc (.cells #[.int .i64 (j : Int), .slice (some ⟨WS.heap.size, 0, none⟩) 1 1] 32)) := ((Kept.refl _ _).alloc _).alloc _
                have zA := kA.size
                obtain ⟨kB, hat'⟩ := grow_kept (v := .slice A 0 c) hgrow hat
                have hun : Own _ 2 40 (.slice (some ⟨WS.heap.size, 0, none⟩) 1 1) 1 (rcs [(a0, b0)]) := Own.alloc (w := WS.alloc (.cells #[.int .i64 (a0 : Int), .int .i64 (b0 : Int)] 40)) ⟨rfl, .inr ⟨WS.heap.size, 0, [], rfl, rfl, by unfold maxLen; omega, Blk.new WS _ _⟩⟩ (.cells #[.int .i64 (j : Int), .slice (some ⟨WS.heap.size, 0, none⟩) 1 1] 32)
                have hpo := PO.push (q := (j, [(a0, b0)])) HPS.out kA hun (by intro b hb; simp at hb; omega) kB (by rw [Hol.out]; exact own4) hat' HMS.out.size
                have hmi := Kept.then (HMS.out.trans kA) kB (fun b hb hv => absurd (HPS.out.above.1 b hv) (by omega))
                have hbq := (HBS.out.kept kA id).kept kB (fun h => Hq2.out.1 q h rfl)
                have hqz := Hqz.out
                have zS := HzS.out
                have Hqn := Lib.hid (show (∀ b ∈ blkOf v', b ≠ q) ∧ ∀ u ∈ us ++ [.slice (some ⟨WS.heap.size, 0, none⟩) 1 1], ∀ b ∈ blkOf u, b ≠ q from ⟨fun b hb => by
                  rcases hat' b hb with h | h
                  · exact Hq2.out.1 b h
                  · omega, fun u hu b hb => by
                  rcases List.mem_append.1 hu with hu | hu
                  · exact Hq2.out.2 u hu b hb
                  · simp at hu; subst hu; simp at hb; omega⟩)
                rw [← Hnw.out, ← hst2.out] at hpo
                have Hpo := Lib.hid hpo
                have Hmi := Lib.hid hmi
                have Hbq := Lib.hid hbq
                clear hpo hmi hbq hqz zS hown' hgrow hnil hat hat' hun own4 kA kB zA
                go_roundw
                case rel => exact ⟨j + 1, _, by go_num, by omega, by omega, Hmi, Hpo, Hbq, Hqn⟩
                case measure => simp only [intOf]; omega
              · obtain ⟨m, ⟨kk, l⟩, hout⟩ : ∃ m x, out = m ++ [x] := by
                  rcases List.eq_nil_or_concat out with h | ⟨m, x, h⟩
                  · exact absurd (by rw [← Hol.out, h]; rfl) h0
                  · exact ⟨m, x, by rw [h, List.concat_eq_append]⟩
                have hml : ol = m.length + 1 := by rw [← Hol.out, hout]; simp
                obtain ⟨us0, u, hus⟩ : ∃ us0 u, us = us0 ++ [u] := by
                  rcases List.eq_nil_or_concat us with h | ⟨us0, u, h⟩
                  · have := HPS.out.len; rw [h, Hol.out] at this; simp at this; omega
                  · exact ⟨us0, u, by rw [h, List.concat_eq_append]⟩
                have hul : us0.length = m.length := by have := HPS.out.len; rw [hus, Hol.out] at this; simp at this; omega
                obtain ⟨g2, k2, rr2, hv2, _, _, hb2⟩ := HO.out.open (by omega)
                obtain ⟨rfl, rfl⟩ : A = some ⟨g2, 0, none⟩ ∧ c = ol + k2 := by simp at hv2; exact hv2
                have hpa := pcs_at (qs := out) (us := us) (i := m.length) (q := (kk, l)) (u := u) (by rw [hout]; simp) (by rw [hus, ← hul]; simp)
                have c0 := (hb2.cell (m.length * 2)).trans (by rw [List.getElem?_append_left (List.getElem?_eq_some_iff.1 hpa.1).1, hpa.1])
                clear hv2
                have hkk : ¬ kk = j := fun h => hon ⟨m, l, by rw [hout, h]⟩
                have hkk2 : ¬ (kk : Int) = (j : Int) := by omega
                have hkk3 : ((kk : Int) == (j : Int)) = false := by rw [beq_eq_false_iff_ne]; omega
                generalize m.length = ml at *
                have j0 : 0 < ol := by omega
                have j1 : (ol : Int) - 1 = (ml : Int) := by omega
                have j3 : (ml : Int) < (ol : Int) := by omega
                have Hout := Lib.hid hout
                have Hus := Lib.hid hus
                have Hml := Lib.hid hml
                clear hout hus hml hul hpa hb2 hon
                go_wp2_with (first
                  | (at_builtin; refine wpList_append_own_at _ rfl _ _ 29 rfl 0 32 iP (.agg #[.int .i64 0, .slice none 0 0]) 2 32 undPartsP q1 q2 q3 q4 rfl (by decide) _ ol (pcs out us) rfl ((HO.out.alloc _).alloc _).toRow ⟨WS.heap.size + 1, 0, none⟩ 1 1 [.int .i64 (j : Int), .slice (some ⟨WS.heap.size, 0, none⟩) 1 1] rfl rfl (cell_two_atP _ _ _ _ _ (by simp)) (by intro u hu; simp at hu; rcases hu with rfl | rfl <;> rfl) (by unfold maxLen; omega) (by omega) (Nat.zero_le _) ?_; intro v' w4 hown' hgrow hnil hat))
                have own4 := Own.ofRow hown'
                have kA : Mild WS ((WS.alloc (.cells #[.int .i64 (a0 : Int), .int .i64 (b0 : Int)] 40)).alloc (.cells #[.int .i64 (j : Int), .slice (some ⟨WS.heap.size, 0, none⟩) 1 1] 32)) := ((Kept.refl _ _).alloc _).alloc _
                have zA := kA.size
                obtain ⟨kB, hat'⟩ := grow_kept (v := .slice (some ⟨g2, 0, none⟩) ol (ol + k2)) hgrow hat
                have hun : Own _ 2 40 (.slice (some ⟨WS.heap.size, 0, none⟩) 1 1) 1 (rcs [(a0, b0)]) := Own.alloc (w := WS.alloc (.cells #[.int .i64 (a0 : Int), .int .i64 (b0 : Int)] 40)) ⟨rfl, .inr ⟨WS.heap.size, 0, [], rfl, rfl, by unfold maxLen; omega, Blk.new WS _ _⟩⟩ (.cells #[.int .i64 (j : Int), .slice (some ⟨WS.heap.size, 0, none⟩) 1 1] 32)
                have hpo := PO.push (q := (j, [(a0, b0)])) HPS.out kA hun (by intro b hb; simp at hb; omega) kB (by rw [Hol.out]; exact own4) hat' HMS.out.size
                have hmi := Kept.then (HMS.out.trans kA) kB (fun b hb hv => absurd (HPS.out.above.1 b hv) (by omega))
                have hbq := (HBS.out.kept kA id).kept kB (fun h => Hq2.out.1 q h rfl)
                have hqz := Hqz.out
                have zS := HzS.out
                have Hqn := Lib.hid (show (∀ b ∈ blkOf v', b ≠ q) ∧ ∀ u ∈ us ++ [.slice (some ⟨WS.heap.size, 0, none⟩) 1 1], ∀ b ∈ blkOf u, b ≠ q from ⟨fun b hb => by
                  rcases hat' b hb with h | h
                  · exact Hq2.out.1 b h
                  · omega, fun u hu b hb => by
                  rcases List.mem_append.1 hu with hu | hu
                  · exact Hq2.out.2 u hu b hb
                  · simp at hu; subst hu; simp at hb; omega⟩)
                rw [← Hnw.out, ← hst2.out] at hpo
                have Hpo := Lib.hid hpo
                have Hmi := Lib.hid hmi
                have Hbq := Lib.hid hbq
                clear hpo hmi hbq hqz zS hown' hgrow hnil hat hat' hun own4 kA kB zA
                go_roundw
                case rel => exact ⟨j + 1, _, by go_num, by omega, by omega, Hmi, Hpo, Hbq, Hqn⟩
                case measure => simp only [intOf]; omega
        · have i2 : decide ((j : Int) ≤ (r.2 : Int) / 65536) = false := by simp; omega
          rw [show j = r.2 / 65536 + 1 by omega, Hend.out] at Hp2
          go_wp2_with fail
          go_roundw
          case rel => exact ⟨k + 1, us, by go_num, by omega, Hm2, Hp2⟩
          case measure => simp only [intOf]; omega
    · obtain rfl : k = nr := by omega
      go_wp2
      go_ret
      have e : s.take k = s := by rw [← Hl.out, List.take_length]
      have hp := Hp.out
      rw [e] at hp
      exact ⟨_, rfl, hp.pv, Hm.out⟩
end Go.Proofs
