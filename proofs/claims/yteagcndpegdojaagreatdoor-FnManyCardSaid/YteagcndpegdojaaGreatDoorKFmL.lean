/-
  laws.FnMany: the walk: it returns true.
-/
import Derived.Test.YteagcndpegdojaaGreatDoorKImn
import Derived.Test.YteagcndpegdojaaGreatDoorJFip
import Derived.Test.YteagcndpegdojaaGreatDoorJNms
import Derived.Test.YteagcndpegdojaaGreatDoorJMbi
import Derived.Test.YteagcndpegdojaaGreatDoorKSet
import Derived.Test.YteagcndpegdojaaGreatDoorJOre
namespace Go.Roar
open Go.RowKit Go.Proofs
theorem set_orM {e : Ending} {w w' : World} {u : Value} {rs : List (Nat × Nat)} (hu : SG w u rs) (hb : ∀ r ∈ rs, r.1 < 4294967296 ∧ r.2 < 4294967296) (hT : Tab w) (hTs : 0 < w.heap.size) (k : Mild w w')
    (h : (∃ v, e = .returned (.tuple #[v, .bool false])) ∨ ∃ v s, e = .returned (.tuple #[v, .bool true]) ∧ RV w' v s ∧ RgOK 4294967296 s ∧ rgCard s ≤ 200000 ∧ s.length ≤ 400 ∧ rs.length ≤ 400 ∧ rgCard (keep rs) ≤ 200000 ∧ ∀ x, x ∈ rgNums s ↔ inR rs x) :
    ∃ v ok s, e = .returned (.tuple #[v, .bool ok]) ∧ (ok = true → RV w' v s ∧ Spans w' u rs s ∧ s.length ≤ 400) := by
  rcases h with ⟨v, rfl⟩ | ⟨v, s, rfl, h1, h2, h3, h4, h5, h6, h7⟩
  · exact ⟨v, false, [], rfl, fun h => by cases h⟩
  · exact ⟨v, true, s, rfl, fun _ => ⟨h1, ⟨Go.Roar.SG.mild hu k, hb, h5, h6, h2, h7, h3, fun i hi => k.cell2 id (hT i hi), Nat.lt_of_lt_of_le hTs k.size⟩, h4⟩⟩
/-- A slice that came in, that reads sizes. -/
def HV (w : World) (v : Value) (ns : List Nat) : Prop :=
  ∃ A c, v = .slice A ns.length c ∧ ∀ (i n : Nat), ns[i]? = some n → ∃ a : Addr, A = some a ∧ w.cell? (a.add i) = some (.int .u16 (n : Int))
theorem HV.mild {w w' : World} {v : Value} {ns : List Nat} (h : HV w v ns) (k : Mild w w') : HV w' v ns := by
  obtain ⟨A, c, rfl, h⟩ := h
  refine ⟨A, c, rfl, fun i n hn => ?_⟩
  obtain ⟨a, rfl, h1⟩ := h i n hn
  exact ⟨a, rfl, k.cell2 id h1⟩
/-- What each size leads to. -/
def szs (ns : List Nat) : List Nat := ns.map fun n => 1 + n % 500
theorem szs_step {ns : List Nat} {k n : Nat} (h : ns[k]? = some n) : szs (ns.take (k + 1)) = szs (ns.take k) ++ [1 + n % 500] := by
  unfold szs
  rw [List.take_add_one, h, List.map_append]; rfl
theorem pcs_at {ns T : List Nat} {k x : Nat} (h : ns[k]? = some x) : (pcs ns T)[k]? = some ((T.drop (ns.take k).sum).take x) := by
  induction ns generalizing T k with
  | nil => simp at h
  | cons n ns ih =>
    unfold pcs
    rcases k with _ | k
    · simp at h; subst h; simp
    · simp only [List.getElem?_cons_succ] at h ⊢
      rw [ih h, List.drop_drop, List.take_succ_cons, List.sum_cons]
theorem sum_take_le {ns : List Nat} {k x : Nat} (h : ns[k]? = some x) : (ns.take k).sum + x ≤ ns.sum := by
  have e : ns.sum = (ns.take (k + 1)).sum + (ns.drop (k + 1)).sum := by rw [← List.sum_append, List.take_append_drop]
  rw [e, List.take_add_one, h]
  simp
theorem w64s_take (l : List Nat) (k : Nat) : (w64s l).take k = w64s (l.take k) := by simp [w64s, List.map_take]
theorem w64s_drop (l : List Nat) (k : Nat) : (w64s l).drop k = w64s (l.drop k) := by simp [w64s, List.map_drop]
theorem i64s_w64s (l : List Nat) : i64s l = w64s l := rfl
/-- What is wanted, cut at a buffer. -/
theorem OW.piece {w : World} {v : Value} {T L : List Nat} {S k x : Nat} (h : OW w v (w64s ((T.drop (L.take k).sum).take (S - (L.take k).sum)))) (hS : S = L.sum) (hx : L[k]? = some x) :
    ∃ A c n v1 v2, v = .slice A n c ∧ n ≤ S ∧ OV w v1 (w64s ((T.drop (L.take k).sum).take x)) ∧ OW w v2 (w64s ((T.drop (L.take (k + 1)).sum).take (S - (L.take (k + 1)).sum))) ∧ (∀ W, (Instr.slice 38 (.slice A n c) none (some (.int .i64 ((min x n : Nat) : Int))) none).run Tryz.prog W = .ok v1 W) ∧ ∀ W, (Instr.slice 38 (.slice A n c) (some (.int .i64 ((min x n : Nat) : Int))) none none).run Tryz.prog W = .ok v2 W := by
  have hle := sum_take_le hx
  have e1 : (L.take (k + 1)).sum = (L.take k).sum + x := by rw [List.take_add_one, hx]; simp
  generalize (L.take k).sum = a at *
  obtain ⟨A, c, v1, v2, h1, h2, h3, h4, h5⟩ := ow_cut h (min x ((T.drop a).take (S - a)).length) (by rw [w64s_length]; exact Nat.min_le_right _ _)
  rw [w64s_take, many_take (by omega)] at h2
  rw [w64s_drop, many_drop (by omega), List.drop_drop, show S - a - x = S - (L.take (k + 1)).sum by omega, ← e1] at h3
  rw [w64s_length] at h1 h4 h5
  exact ⟨A, c, _, v1, v2, h1, by rw [List.length_take]; omega, h2, h3, h4, h5⟩
end Go.Roar
namespace Go.Proofs
open Go.RowKit Go.Roar

set_option maxRecDepth 100000 in
set_option maxHeartbeats 4000000 in
theorem lawM_any (u : Value) (rs : List (Nat × Nat)) (v : Value) (ns : List Nat) (y : Nat) (w : World) (hu : SG w u rs) (hb : ∀ r ∈ rs, r.1 < 4294967296 ∧ r.2 < 4294967296) (hv : HV w v ns) (hnb : ∀ n ∈ ns, n < 65536) (hy : y < 256) (hT : Tab w) (hTs : 0 < w.heap.size) :
    Calls Tryz.prog 4 #[u, v, .int .u8 (y : Int)] w fun e w' => e = .returned (.bool true) ∧ Mild w w' := by
  obtain ⟨iU, zz1, zz2, zz3, zz4⟩ := info_parts infoI64
  have hSet := fun (h : rs.length ≤ 2147483647) => set_any made_any u rs w hu hb h
  have Hor := Lib.hid (fun (e : Ending) (w' : World) (k : Mild w w') => set_orM (e := e) hu hb hT hTs k)
  obtain ⟨B, d, rfl, _⟩ := hu
  obtain ⟨SA, sc, rfl, hv2⟩ := hv
  have HS := Lib.hid hSet
  have HSV := Lib.hid hv2
  have HNB := Lib.hid hnb
  clear hSet hT hb hv2 hnb
  generalize hln : rs.length = nr at *
  obtain ⟨nz, hnz⟩ : ∃ nz, nz = ns.length := ⟨_, rfl⟩
  rw [← hnz]
  have Hln := Lib.hid hln
  have HNZ := Lib.hid hnz
  clear hln hnz
  by_cases h1 : nr ≤ 2147483647
  · have Hset := Lib.hid (HS.out h1)
    have i1 : ¬ ((2147483647 : Int) < (nr : Int)) := by omega
    by_cases h2 : nz ≤ 2147483647
    · have i2 : ¬ ((2147483647 : Int) < (nz : Int)) := by omega
      have r1 : ((y : Int)).tmod 2 = ((y % 2 : Nat) : Int) := by rw [Int.tmod_eq_emod_of_nonneg (by omega)]; omega
      have r2 : IntKind.i64.wrap ((y % 2 : Nat) : Int) = ((y % 2 : Nat) : Int) := IntWalk.i64_in _ (by omega)
      have hm2 : y % 2 < 2 := Nat.mod_lt _ (by decide)
      generalize y % 2 = m at *
      clear HS
      go_enter Tryz.func4, Tryz.ntmps4
      go_upto_region 4 with (first
        | (go_at_call 5; (with_reducible refine Hset.out.mono ?_); rintro ed w1 ⟨k1, hor⟩; obtain ⟨v1, ok, s, rfl, hok⟩ := Hor.out _ _ k1 hor; have K1 := Lib.hid k1; have Hok := Lib.hid hok; clear k1 hor hok)
        | fail)
      cases ok
      · go_wp2_with fail
        go_ret
        exact ⟨rfl, K1.out⟩
      · by_cases h3 : nz ≤ 20
        · have i3 : ¬ ((20 : Int) < (nz : Int)) := by omega
          obtain ⟨rv, hsp, hl⟩ := Hok.out rfl
          obtain ⟨T, hTT⟩ : ∃ T, T = rgNums s := ⟨_, rfl⟩
          have hTb : ∀ z ∈ T, z < 4294967296 := fun z hz => by rw [hTT] at hz; exact rgNums_lt hsp.ok z hz
          have HTB := Lib.hid hTb
          have FI := Lib.hid (fun (S : Nat) (W : World) (k : Mild w1 W) (hS : S ≤ 10000) => show Calls Tryz.prog 11 #[v1, .int .i64 (S : Int)] W fun e w' => ∃ v, e = .returned v ∧ Own w' 1 3 v (T.take S).length (w64s (T.take S)) ∧ Mild W w' from by
            refine (firstn_any v1 s S W (rv.mild k) (fun r hr => hsp.ok.1 r hr) (by omega) (by omega)).mono ?_
            rintro e w' ⟨v, rfl, o1, o2, _⟩
            rw [← hTT] at o1
            exact ⟨v, rfl, o1, o2⟩)
          have IM := Lib.hid (fun (sv : Value) (Ls : List Nat) (W : World) (k : Mild w1 W) (h1 : NV W sv (w64s Ls)) (h2 : ∀ x ∈ Ls, 1 ≤ x ∧ x ≤ 500) (h3 : Ls.length ≤ 20) => show Calls Tryz.prog 12 #[.slice B nr d, sv, .int .i64 (m : Int)] W (IMP Ls T W) from by
            have := implMany_any _ sv rs s Ls m W (hsp.mild k) h1 h2 h3 hm2
            rw [← hTT] at this
            exact this)
          have ST := Lib.hid (fun (W : World) (k : Mild w1 W) => show Calls Tryz.prog 14 #[] W fun e w' => e = .returned (.bool true) ∧ Mild W w' from some_any W (hsp.mild k).tab (hsp.mild k).tabs)
          have NU := Lib.hid (fun (v u : Value) (l : List Nat) (W : World) (h1 : NV W v (u32s l)) (h2 : OV W u (w64s l)) (hb : ∀ x ∈ l, x < 4294967296) (hn : l.length ≤ 1000000) => numbersO_any v u l W h1 h2 hb hn)
          clear rv hsp hl Hok hTT hTb hm2 Hor Hset
          have m0 : Mild w1 (w1.alloc (.cells #[] 3)) := (Kept.refl _ _).alloc _
          have ow0 : Own (w1.alloc (.cells #[] 3)) 1 3 (.slice (some ⟨w1.heap.size, 0, none⟩) 0 0) 0 [] := ⟨rfl, .inr ⟨w1.heap.size, 0, [], rfl, rfl, by unfold maxLen; omega, Blk.new w1 _ []⟩⟩
          have M0 := Lib.hid m0
          have W0 := Lib.hid ow0
          clear m0 ow0
          go_wp2_with fail
          go_loopw [41, 9, 10] (fun i v a wr => ∃ (k S : Nat), i = .int .i64 k ∧ k ≤ nz ∧ a = .int .i64 (S : Int) ∧ S ≤ 500 * k ∧ Hid (S = (szs (ns.take k)).sum) ∧ Hid (Own wr 1 3 v k (w64s (szs (ns.take k)))) ∧ Hid (Mild w1 wr) ∧ Hid (∀ b ∈ blkOf v, w1.heap.size ≤ b)) (fun i _ _ _ => nz - (intOf i).toNat)
          case atStart => exact ⟨0, 0, rfl, Nat.zero_le _, rfl, Nat.zero_le _, Lib.hid (by simp [szs]), Lib.hid (by simpa [w64s, szs] using W0.out), M0, Lib.hid (by simp)⟩
          case round =>
            obtain ⟨k, S, rfl, hk, rfl, hS, HSS, Ho, Hm, Hf⟩ := hrel
            obtain ⟨A, c, rfl⟩ := Own.form Ho.out
            by_cases hkn : k < nz
            · have j1 : (k : Int) < (nz : Int) := by omega
              obtain ⟨n, hx⟩ : ∃ n, ns[k]? = some n := ⟨_, List.getElem?_eq_getElem (by rw [← HNZ.out]; exact hkn)⟩
              have hn := HNB.out n (List.mem_of_getElem? hx)
              obtain ⟨a, rfl, a1⟩ := HSV.out k n hx
              have ca := (K1.out.trans Hm.out).cell2 id a1
              have Hst := Lib.hid (szs_step hx)
              have e1 : ((n : Int)).tmod 500 = ((n % 500 : Nat) : Int) := by rw [Int.tmod_eq_emod_of_nonneg (by omega)]; omega
              have e2 : IntKind.i64.wrap ((n % 500 : Nat) : Int) = ((n % 500 : Nat) : Int) := IntWalk.i64_in _ (by omega)
              obtain ⟨q, hq⟩ : ∃ q, q = n % 500 := ⟨_, rfl⟩
              have hq5 : q < 500 := by omega
              rw [← hq] at e1 e2 Hst
              have e3 : IntKind.i64.wrap (1 + (q : Int)) = ((1 + q : Nat) : Int) := (IntWalk.i64_in _ (by omega)).trans (by omega)
              have e4 : IntKind.i64.wrap ((S : Int) + ((1 + q : Nat) : Int)) = ((S + (1 + q) : Nat) : Int) := (IntWalk.i64_in _ (by omega)).trans (by omega)
              clear a1 hx hq
              go_wp2_with (first
                | (at_builtin; refine append_own_kept (S := fun _ => False) w1 rfl _ _ 38 38 rfl 3 iU (.int .i64 0) 1 8 undInts undInts zz1 zz2 zz3 zz4 rfl (by decide) _ k (w64s (szs (ns.take k))) rfl (Ho.out.alloc _) (Hm.out.alloc _) Hf.out (some ⟨_, 0, none⟩) 1 1 [.int .i64 ((1 + q : Nat) : Int)] rfl rfl (by simp) (fun ad had => by cases had; exact cell_one_new _ _ _) (by simp [Value.oneCell']) (by unfold maxLen; omega) (by omega) ?_; intro v7 w7 o7 k7 l7 f7 n7)
                | fail)
              have o8 : Own w7 1 3 v7 (k + 1) (w64s (szs (ns.take (k + 1)))) := by
                rw [Hst.out]
                simpa [w64s] using o7
              have s8 : S + (1 + q) = (szs (ns.take (k + 1))).sum := by
                rw [Hst.out, List.sum_append, List.sum_singleton, HSS.out]
              go_roundw
              case rel => exact ⟨k + 1, S + (1 + q), by go_num, by omega, by go_num, by omega, Lib.hid s8, Lib.hid o8, Lib.hid k7, Lib.hid f7⟩
              case measure => simp only [intOf]; omega
            · obtain rfl : k = nz := by omega
              have e : ns.take k = ns := by rw [HNZ.out, List.take_length]
              have HE := Lib.hid e
              obtain ⟨L, hL⟩ : ∃ L, L = szs ns := ⟨_, rfl⟩
              have hLl : L.length = k := by rw [hL, HNZ.out]; simp [szs]
              have hLs : ∀ x ∈ L, 1 ≤ x ∧ x ≤ 500 := by
                rw [hL]; intro x hx
                obtain ⟨n, _, rfl⟩ := List.mem_map.1 hx
                have := Nat.mod_lt n (show 0 < 500 by decide)
                omega
              rw [e, ← hL] at HSS Ho
              have HLL := Lib.hid hLl
              have HLS := Lib.hid hLs
              have NVl := Lib.hid (NV.own Ho.out)
              clear e hL hLl hLs HE
              go_wp2_with (first
                | (go_at_call 11; (with_reducible refine (FI.out S _ Hm.out (by omega)).mono ?_); rintro ed w4 ⟨v4, rfl, t1, t2⟩; have T4 := Lib.hid t1; have K4 := Lib.hid t2; clear t1 t2)
                | (go_at_call 12; (with_reducible refine (IM.out _ L _ (Hm.out.trans K4.out) (NVl.out.mild K4.out) HLS.out (by rw [HLL.out]; omega)).mono ?_); rintro ed w5 ⟨v5, vals, I, rfl, t1, t2, t3⟩; rw [HLL.out] at t1; obtain ⟨A5, c5, rfl⟩ := Own.form t1; have T5 := Lib.hid t1; have B5 := Lib.hid t2; have K5 := Lib.hid t3; clear t1 t2 t3)
                | fail)
              have KK := Lib.hid (Hm.out.trans (K4.out.trans K5.out))
              have LV := Lib.hid (Kept.trans (Ho.out.2 |> fun _ => K4.out) K5.out)
              have OW0 := Lib.hid (show OW w5 v4 (w64s ((T.drop (L.take 0).sum).take (S - (L.take 0).sum))) from by
                have := OW.mild (OW.own T4.out) K5.out
                simpa using this)
              have OL := Lib.hid (Ho.out.kept LV.out (fun _ _ => id))
              have HG := Lib.hid (show ∀ (i : Nat) (x : Value), vals[i]? = some x → ∃ g, A5 = some ⟨g, 0, none⟩ ∧ w5.cell? ⟨g, i, none⟩ = some x from by
                obtain ⟨A', c', e, h⟩ := NV.own T5.out
                simp only [Value.slice.injEq] at e
                obtain ⟨rfl, _, rfl⟩ := e
                exact h)
              have HL := Lib.hid (show ∀ (i x : Nat), L[i]? = some x → ∃ g, A = some ⟨g, 0, none⟩ ∧ w5.cell? ⟨g, i, none⟩ = some (.int .i64 (x : Int)) from fun i x hx => by
                obtain ⟨A', c', e, h⟩ := NV.own OL.out
                simp only [Value.slice.injEq] at e
                obtain ⟨rfl, _, rfl⟩ := e
                exact h i _ (w64s_at hx))
              clear FI IM NVl T4 Ho OL T5
              go_loopw [75, 13] (fun i v wr => ∃ j : Nat, i = .int .i64 j ∧ j ≤ k ∧ Hid (OW wr v (w64s ((T.drop (L.take j).sum).take (S - (L.take j).sum)))) ∧ Hid (Mild w5 wr)) (fun i _ _ => k - (intOf i).toNat)
              case atStart => exact ⟨0, rfl, Nat.zero_le _, OW0, Lib.hid (Kept.refl _ _)⟩
              case round =>
                obtain ⟨j, rfl, hj, HW, HM⟩ := hrel
                by_cases hjk : j < k
                · have q1 : (j : Int) < (k : Int) := by omega
                  obtain ⟨x, hx⟩ : ∃ x, L[j]? = some x := ⟨_, List.getElem?_eq_getElem (by rw [HLL.out]; exact hjk)⟩
                  have hx5 := HLS.out x (List.mem_of_getElem? hx)
                  obtain ⟨g, c6, b1, -, -, -, b2⟩ := B5.out.2 j _ (pcs_at hx)
                  obtain ⟨A6, c7, n6, p1, p2, rfl, hn6, hp1, hp2, s1, s2⟩ := HW.out.piece HSS.out hx
                  obtain ⟨g5, rfl, d1⟩ := HG.out j _ b1
                  obtain ⟨g1, rfl, d2⟩ := HL.out j x hx
                  have x1 := HM.out.cell2 id d1
                  have x2 := HM.out.cell2 id d2
                  have hq : ∀ z ∈ (T.drop (L.take j).sum).take x, z < 4294967296 := fun z hz => HTB.out z (List.mem_of_mem_drop (List.mem_of_mem_take hz))
                  have hql : ((T.drop (L.take j).sum).take x).length ≤ 1000000 := by rw [List.length_take]; omega
                  have NP := Lib.hid (show NV wr (.slice (some ⟨g, 0, none⟩) ((T.drop (L.take j).sum).take x).length c6) (u32s ((T.drop (L.take j).sum).take x)) from ⟨some ⟨g, 0, none⟩, c6, by rw [u32s_length], fun i z hz => ⟨g, rfl, by
                    have : ∃ b, ((T.drop (L.take j).sum).take x)[i]? = some b ∧ z = .int .u32 (b : Int) := by
                      unfold u32s at hz
                      rw [List.getElem?_map] at hz
                      cases h : ((T.drop (L.take j).sum).take x)[i]? with
                      | none => rw [h] at hz; cases hz
                      | some b => rw [h] at hz; exact ⟨b, rfl, (Option.some.inj hz).symm⟩
                    obtain ⟨b, hb, rfl⟩ := this
                    exact HM.out.cell2 id (b2 i b hb)⟩⟩)
                  have NW := Lib.hid (NU.out _ _ _ wr NP.out hp1 hq hql)
                  have HP2 := Lib.hid hp2
                  clear d1 d2 hq hql hx b1 b2 hp1 hp2 NP HW
                  generalize ((T.drop (L.take j).sum).take x).length = pl at *
                  rcases Nat.lt_trichotomy x n6 with hc | hc | hc
                  · rw [Nat.min_eq_left (Nat.le_of_lt hc)] at s1 s2
                    have y1 : (x : Int) < (n6 : Int) := by omega
                    have y2 : ¬ (n6 : Int) < (x : Int) := by omega
                    have y3 : (x : Int) ≤ (n6 : Int) := by omega
                    have y4 : ¬ (n6 : Int) ≤ (x : Int) := by omega
                    clear hc
                    go_wp2_with (first
                      | (go_at_call 13; (with_reducible refine NW.out.mono ?_); rintro ed w8 ⟨rfl, k8⟩; have K8 := Lib.hid k8; clear k8)
                      | fail)
                    go_roundw
                    case rel => exact ⟨j + 1, by go_num, by omega, Lib.hid (HP2.out.mild K8.out), Lib.hid (HM.out.trans K8.out)⟩
                    case measure => simp only [intOf]; omega
                  · subst hc
                    rw [Nat.min_self] at s1 s2
                    have y1 : ¬ (x : Int) < (x : Int) := by omega
                    have y3 : (x : Int) ≤ (x : Int) := by omega
                    go_wp2_with (first
                      | (go_at_call 13; (with_reducible refine NW.out.mono ?_); rintro ed w8 ⟨rfl, k8⟩; have K8 := Lib.hid k8; clear k8)
                      | fail)
                    go_roundw
                    case rel => exact ⟨j + 1, by go_num, by omega, Lib.hid (HP2.out.mild K8.out), Lib.hid (HM.out.trans K8.out)⟩
                    case measure => simp only [intOf]; omega
                  · rw [Nat.min_eq_right (Nat.le_of_lt hc)] at s1 s2
                    have y1 : (n6 : Int) < (x : Int) := by omega
                    have y2 : ¬ (x : Int) < (n6 : Int) := by omega
                    have y3 : (n6 : Int) ≤ (x : Int) := by omega
                    have y4 : ¬ (x : Int) ≤ (n6 : Int) := by omega
                    clear hc
                    go_wp2_with (first
                      | (go_at_call 13; (with_reducible refine NW.out.mono ?_); rintro ed w8 ⟨rfl, k8⟩; have K8 := Lib.hid k8; clear k8)
                      | fail)
                    go_roundw
                    case rel => exact ⟨j + 1, by go_num, by omega, Lib.hid (HP2.out.mild K8.out), Lib.hid (HM.out.trans K8.out)⟩
                    case measure => simp only [intOf]; omega
                · obtain rfl : j = k := by omega
                  go_wp2_with (first
                    | (go_at_call 14; (with_reducible refine (ST.out _ (KK.out.trans HM.out)).mono ?_); rintro ed w8 ⟨rfl, k8⟩; have K8 := Lib.hid k8; clear k8)
                    | fail)
                  go_ret
                  exact ⟨rfl, K1.out.trans (KK.out.trans (HM.out.trans K8.out))⟩
        · have i3 : (20 : Int) < (nz : Int) := by omega
          go_wp2_with fail
          go_ret
          exact ⟨rfl, K1.out⟩
    · have i2 : (2147483647 : Int) < (nz : Int) := by omega
      go_enter Tryz.func4, Tryz.ntmps4
      go_wp2_with fail
      go_ret
      exact ⟨rfl, Kept.refl _ _⟩
  · have i1 : (2147483647 : Int) < (nr : Int) := by omega
    go_enter Tryz.func4, Tryz.ntmps4
    go_wp2_with fail
    go_ret
    exact ⟨rfl, Kept.refl _ _⟩
end Go.Proofs
