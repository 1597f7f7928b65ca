/-
  The iterators of the containers go on to a number: advanceIfNeeded.
  The iterator of a container, whatever its kind: its methods advanceIfNeeded and hasNext.
-/
import Derived.Test.YtplpoejknbhinaaGreatDoorJWkp
import Derived.Test.YtplpoejknbhinaaGreatDoorJSr
import Derived.Test.YtplpoejknbhinaaGreatDoorKIn
namespace Go.Proofs
open Go.RowKit Go.Roar

theorem siPeek_any (I o g j m c x : Nat) (w : World) (h0 : w.cell? ⟨I, o, none⟩ = some (.slice (some ⟨g, 0, none⟩) m c)) (h1 : w.cell? ⟨I, o + 1, none⟩ = some (.int .i64 (j : Int))) (hj : j < m) (hx : w.cell? ⟨g, j, none⟩ = some (.int .u16 (x : Int))) :
    Calls Tryz.prog 165 #[.pointer (some ⟨I, o, none⟩)] w fun e w' => e = .returned (.int .u16 (x : Int)) ∧ Mild w w' := by
  have i1 : (j : Int) < (m : Int) := by omega
  go_enter Tryz.func165, Tryz.ntmps165
  go_wp2
  go_quiet (fail)
  go_wp2
  go_ret
  exact ⟨rfl, (Kept.refl _ _).drewN _⟩

set_option maxRecDepth 100000 in
set_option maxHeartbeats 2000000 in
theorem lowS_adv (I H lo : Nat) (cs : List Value) (l : List Nat) (w : World) (hb : Blk w I IIty cs) (hI : H ≤ I) (h : LowS w H cs l) (hs : Rising l) (hne : l ≠ []) (hx16 : ∀ x ∈ l, x < 65536) :
    Calls Tryz.prog 162 #[.pointer (some ⟨I, 4, none⟩), .int .u16 (lo : Int)] w fun e w' => e = .returned (.tuple #[]) ∧ ∃ cs', Blk w' I IIty cs' ∧ cs'.length = cs.length ∧ cs'.take 4 = cs.take 4 ∧ LowS w' H cs' (frm lo l) ∧ Kept (fun k => k = I) w w' := by
  have CH := Lib.hid (lowS_has I H cs l w hb h)
  obtain ⟨g, j, m, c, xs, a1, a2, a3, a4, a5, a6, a7, rfl⟩ := h
  have hj : j < xs.length := by
    rcases Nat.lt_or_ge j xs.length with h | h
    · exact h
    · rw [List.drop_eq_nil_of_le h] at hne; exact absurd rfl hne
  obtain ⟨x, hx⟩ : ∃ x, xs[j]? = some x := ⟨_, List.getElem?_eq_getElem hj⟩
  have hxb : x < 65536 := hx16 x (List.mem_of_getElem? (i := 0) (by rw [List.getElem?_drop, Nat.add_zero]; exact hx))
  have hdc := List.drop_eq_getElem_cons hj
  have hxj : xs[j] = x := by have := List.getElem?_eq_getElem hj; rw [hx] at this; exact (Option.some.inj this).symm
  rw [hxj] at hdc
  have he : decide (xs.drop j ≠ []) = true := by simpa using hne
  rw [he] at CH
  have b4 := (hb.cell 4).trans a1
  have b5 := (hb.cell 5).trans a2
  have CP := Lib.hid (fun (W : World) (k : Mild w W) => siPeek_any I 4 g j m c x W (k.cell2 id b4) (k.cell2 id b5) (by omega) (k.cell2 id (a6 _ _ hx)))
  have HL : Hid (LowS w H cs (xs.drop j)) := Lib.hid ⟨g, j, m, c, xs, a1, a2, a3, a4, a5, a6, a7, rfl⟩
  have hsm := fun (h : lo ≤ x) => frm_head (m := lo) (hdc ▸ hs) h
  have HB := Lib.hid hb
  by_cases hc : lo ≤ x
  · have i1 : ¬ (x : Int) < (lo : Int) := by omega
    have HF := Lib.hid (show frm lo (xs.drop j) = xs.drop j by rw [hdc]; exact hsm hc)
    clear hsm hdc hxj he hx hs hne hb a1 a2 a6 hx16
    go_enter Tryz.func162, Tryz.ntmps162
    go_wp2_with (first
      | (go_at_call 163; (with_reducible refine CH.out.mono ?_); rintro ed w1 ⟨rfl, k1⟩; have K1 := Lib.hid k1)
      | (go_at_call 165; (with_reducible refine (CP.out _ K1.out).mono ?_); rintro ed w2 ⟨rfl, k2⟩; have K2 := Lib.hid (K1.out.trans k2); clear k2)
      | fail)
    go_end0
    exact ⟨rfl, cs, HB.out.kept K2.out id, rfl, rfl, by rw [HF.out]; exact HL.out.kept K2.out (fun _ _ => id), K2.out.mono (fun _ _ => False.elim)⟩
  · have i1 : (x : Int) < (lo : Int) := by omega
    have h5 : 5 < cs.length := (List.getElem?_eq_some_iff.1 a2).1
    have h4 : 4 < cs.length := (List.getElem?_eq_some_iff.1 a1).1
    have hxs16 : ∀ (i y : Nat), j ≤ i → xs[i]? = some y → y < 65536 := fun i y hi hy => hx16 y (List.mem_of_getElem? (i := i - j) (by rw [List.getElem?_drop, show j + (i - j) = i by omega]; exact hy))
    have AU := Lib.hid (fun (W : World) (k : Mild w W) => advUntil_any g m c xs j lo W hs hxs16 a4 a5 (fun i y hy => k.cell2 id (a6 i y hy)) (by omega) (fun y hy => by rw [hx] at hy; cases hy; omega))
    have HS := Lib.hid hs
    have HA := Lib.hid (And.intro a1 (And.intro a2 (And.intro a4 a6)))
    clear hsm hdc hxj he hx hs hne hb a1 a2 a6 hx16 hxs16
    go_enter Tryz.func162, Tryz.ntmps162
    go_upto_region 1 with (first
      | (go_at_call 163; (with_reducible refine CH.out.mono ?_); rintro ed w1 ⟨rfl, k1⟩; have K1 := Lib.hid k1)
      | (go_at_call 165; (with_reducible refine (CP.out _ K1.out).mono ?_); rintro ed w2 ⟨rfl, k2⟩; have K2 := Lib.hid (K1.out.trans k2); clear k2; have d4 := K2.out.cell2 id b4; have d5 := K2.out.cell2 id b5; have f5 := (HB.out.kept K2.out id).free 5)
      | fail)
    go_region_with (first
      | (go_at_call 166; ((with_reducible refine (AU.out _ K2.out.drew).mono ?_); rintro ed w3 ⟨j2, rfl, hA, rfl⟩; have HAU := Lib.hid hA; clear hA)))
    all_goals
      go_wp2
      go_end0
      have hA := HAU.out
      have e := AUp.frm HS.out hA
      obtain ⟨x1, x2, x4, x6⟩ := HA.out
      have kk : Kept (fun k => k = I) w (w2.drew.setCell ⟨I, 5, none⟩ (.int .i64 (j2 : Int))) := Mild.one K2.out.drew I 5 _
      refine ⟨rfl, _, (HB.out.kept K2.out.drew id).set 5 _, by simp, by rw [List.take_set_of_le (by omega)], ⟨g, j2, m, c, xs, ?_, ?_, a3, x4, a5, fun i y hy => kk.cell2 (by show ¬ g = I; omega) (x6 i y hy), by have := hA.2.1; omega, e⟩, kk⟩
      · rw [List.getElem?_set_ne (by omega)]; exact x1
      · rw [List.getElem?_set_self h5]

theorem riPeek_any (I o q g j k st m c : Nat) (w : World) (h0 : w.cell? ⟨I, o, none⟩ = some (.pointer (some ⟨q, 0, none⟩))) (h1 : w.cell? ⟨I, o + 1, none⟩ = some (.int .i64 (j : Int))) (h2 : w.cell? ⟨I, o + 2, none⟩ = some (.int .u16 (k : Int)))
    (hq : w.cell? ⟨q, 0, none⟩ = some (.slice (some ⟨g, 0, none⟩) m c)) (hj : j < m) (hs : w.cell? ⟨g, j * 2, none⟩ = some (.int .u16 (st : Int))) (hb : st + k < 65536) :
    Calls Tryz.prog 170 #[.pointer (some ⟨I, o, none⟩)] w fun e w' => e = .returned (.int .u16 ((st + k : Nat) : Int)) ∧ Mild w w' := by
  have i1 : (j : Int) < (m : Int) := by omega
  have q1 : IntKind.u16.wrap ((st : Int) + (k : Int)) = ((st + k : Nat) : Int) := by rw [IntWalk.u16_in _ (by omega)]; omega
  go_enter Tryz.func170, Tryz.ntmps170
  go_wp2
  go_quiet (fail)
  go_wp2
  go_ret
  exact ⟨ret_int (by omega), (Kept.refl _ _).drewN _⟩

set_option maxRecDepth 100000 in
set_option maxHeartbeats 2000000 in
theorem lowR_adv (I H lo : Nat) (cs : List Value) (l : List Nat) (w : World) (hb : Blk w I IIty cs) (hI : H ≤ I) (h : LowR w H cs l) (hne : l ≠ []) (hlo : lo < 65536) :
    Calls Tryz.prog 167 #[.pointer (some ⟨I, 6, none⟩), .int .u16 (lo : Int)] w fun e w' => e = .returned (.tuple #[]) ∧ ∃ cs', Blk w' I IIty cs' ∧ cs'.length = cs.length ∧ cs'.take 4 = cs.take 4 ∧ LowR w' H cs' (frm lo l) ∧ Kept (fun k => k = I) w w' := by
  have CH := Lib.hid (lowR_has I H cs l w hb h)
  have HL := Lib.hid h
  obtain ⟨q, g, j, k, m, c, rs, a1, a2, a3, a4, a5, a6, a7, a8, a9, a10, a11, ⟨_, h⟩ | ⟨r, hr, hk, rfl⟩⟩ := h
  · exact absurd h hne
  have hj : j < rs.length := (List.getElem?_eq_some_iff.1 hr).1
  have h9 := a9 r (List.mem_of_getElem? hr)
  have he : decide (List.range' (r.1 + k) (r.2 - k + 1) ++ ivNums (rs.drop (j + 1)) ≠ []) = true := by simp
  rw [he] at CH
  have b6 := (hb.cell 6).trans a1
  have b7 := (hb.cell 7).trans a2
  have b8 := (hb.cell 8).trans a3
  have CP := Lib.hid (fun (W : World) (kk : Mild w W) => riPeek_any I 6 q g j k r.1 m c W (kk.cell2 id b6) (kk.cell2 id b7) (kk.cell2 id b8) (kk.cell2 id a6) (by omega) (kk.cell2 id (a10 _ _ hr).1) (by omega))
  have HB := Lib.hid hb
  have hR : RgOK 65536 (fl rs) := a11
  have hfl : (fl rs).length = m := by simp [fl, a7]
  obtain ⟨pk, hpk⟩ : ∃ pk, pk = r.1 + k := ⟨_, rfl⟩
  rw [← hpk] at CP
  by_cases hc : lo ≤ r.1 + k
  · have i1 : (lo : Int) ≤ (pk : Int) := by omega
    have HF := Lib.hid (fl_same hR hr hk hc)
    clear he hr hk hne hb a1 a2 a3 a6 a9 a10 a11 hR hpk
    go_enter Tryz.func167, Tryz.ntmps167
    go_wp2_with (first
      | (go_at_call 168; (with_reducible refine CH.out.mono ?_); rintro ed w1 ⟨rfl, k1⟩; have K1 := Lib.hid k1)
      | (go_at_call 170; (with_reducible refine (CP.out _ K1.out).mono ?_); rintro ed w2 ⟨rfl, k2⟩; have K2 := Lib.hid (K1.out.trans k2); clear k2)
      | fail)
    (try simp only [Exit.inBlock, Exit.then])
    refine bodyPost_ret (results_none rfl _ _ _) rfl ?_
    exact ⟨rfl, cs, HB.out.kept K2.out id, rfl, rfl, by rw [HF.out]; exact HL.out.kept K2.out (fun _ _ => id), K2.out.mono (fun _ _ => False.elim)⟩
  · have i1 : ¬ (lo : Int) ≤ (pk : Int) := by omega
    have h7 : 7 < cs.length := (List.getElem?_eq_some_iff.1 a2).1
    have h8 : 8 < cs.length := (List.getElem?_eq_some_iff.1 a3).1
    have SE := Lib.hid (fun (W : World) (kk : Mild w W) (X : Int) (hX : X = (lo : Int)) => show Calls Tryz.prog 93 #[.pointer (some ⟨q, 0, none⟩), .int .i64 X, .int .i64 (j : Int), .int .i64 (m : Int)] W fun ed w' => SPostB (fl rs) j lo W ed w' from by
      subst hX
      have := searchE_any q (fl rs) lo j W g c (by rw [hfl]; exact kk.cell2 id a6) (fun i p hp => by
        simp only [fl, List.getElem?_map, Option.map_eq_some_iff] at hp
        obtain ⟨p0, hp0, rfl⟩ := hp
        dsimp only
        rw [Nat.add_sub_cancel_left]
        exact ⟨kk.cell2 id (a10 i p0 hp0).1, kk.cell2 id (a10 i p0 hp0).2⟩) hR (by omega) (by omega) (by omega) (by omega) (fun p hj0 hp => by
        have h1 := runs_lt hR (show j - 1 < j by omega) hp (fl_at hr)
        simp only at h1
        omega)
      rw [hfl] at this
      exact this)
    have HR := Lib.hid hR
    have Hr := Lib.hid hr
    have HX := Lib.hid (And.intro a1 (And.intro a2 (And.intro a3 (And.intro a6 (And.intro a7 (And.intro a9 a10))))))
    have HC := Lib.hid hc
    clear he hr hne hb a1 a2 a3 a6 a9 a10 a11 hR hpk hc
    go_enter Tryz.func167, Tryz.ntmps167
    go_upto_region 1 with (first
      | (go_at_call 168; (with_reducible refine CH.out.mono ?_); rintro ed w1 ⟨rfl, k1⟩; have K1 := Lib.hid k1)
      | (go_at_call 170; (with_reducible refine (CP.out _ K1.out).mono ?_); rintro ed w2 ⟨rfl, k2⟩; have K2 := Lib.hid (K1.out.trans k2); clear k2; have d6 := K2.out.cell2 id b6; have d7 := K2.out.cell2 id b7; have dq := K2.out.cell2 id HX.out.2.2.2.1)
      | fail)
    go_region_held3 (fun w' => w'.cell? ⟨I, 6, none⟩ = some (.pointer (some ⟨q, 0, none⟩)) ∧ w'.cell? ⟨I, 7, none⟩ = some (.int .i64 (j : Int)) ∧ w'.cell? ⟨q, 0, none⟩ = some (.slice (some ⟨g, 0, none⟩) m c)) (first | exact ⟨(K2.out.drew.trans k4).cell2 id b6, (K2.out.drew.trans k4).cell2 id b7, (K2.out.drew.trans k4).cell2 id HX.out.2.2.2.1⟩ | exact ⟨K2.out.drew.cell2 id b6, K2.out.drew.cell2 id b7, K2.out.drew.cell2 id HX.out.2.2.2.1⟩) (first
      | (go_at_call 93; (with_reducible refine (SE.out _ K2.out.drew (IntKind.i64.wrap (lo : Int)) (IntWalk.i64_in _ (by omega))).mono ?_); rintro ed w4 ⟨W, bb, z, j2, rfl, t1, t2, t3, k4⟩; have T1 := Lib.hid t1; have T2 := Lib.hid t2; have T3 := Lib.hid t3; clear t1 t2 t3)
      | fail)
    all_goals
      have K4 := Lib.hid (K2.out.drew.trans k4)
      clear k4
      have hb4 := HB.out.kept K4.out id
      have e6 := (hb4.cell 6).trans HX.out.1
      have e7 := (hb4.cell 7).trans HX.out.2.1
      have e8 := (hb4.cell 8).trans HX.out.2.2.1
      have f7 := hb4.free 7
      have f8 := hb4.free 8
      have eq0 := K4.out.cell2 id HX.out.2.2.2.1
      have hT1 := T1.out
      have hjj := hT1.2.1
      rw [hfl] at hjj
      cases bb
      · obtain ⟨hW, hno⟩ := T3.out rfl
        have HNO := Lib.hid hno
        have w9 : W + 1 = (j2 : Int) := hW
        have HF := Lib.hid (fl_out HR.out Hr.out hk (by have := HC.out; omega) hT1.1 (fun p hp => Nat.le_of_lt (hno p hp)) hT1.2.2.1)
        clear hT1 hno
        go_wp2
        go_end0
        have kk : Kept (fun k => k = I) w ((w4.setCell ⟨I, 7, none⟩ (.int .i64 (j2 : Int))).setCell ⟨I, 8, none⟩ (.int .u16 0)) := Kept.setCell (S := fun k => k = I) (p := ⟨I, 8, none⟩) (Mild.one K4.out I 7 _) (fun _ => rfl) _
        obtain ⟨x1, x2, x3, x6, x7, x9, x10⟩ := HX.out
        refine ⟨rfl, _, (hb4.set 7 _).set 8 _, by simp, by rw [List.take_set_of_le (by omega), List.take_set_of_le (by omega)], ⟨q, g, j2, 0, m, c, rs, ?_, ?_, ?_, a4, a5, kk.cell2 (by show ¬ q = I; omega) x6, x7, a8, x9, fun i p hp => ⟨kk.cell2 (by show ¬ g = I; omega) (x10 i p hp).1, kk.cell2 (by show ¬ g = I; omega) (x10 i p hp).2⟩, HR.out, ?_⟩, kk⟩
        · rw [List.getElem?_set_ne (by omega), List.getElem?_set_ne (by omega)]; exact x1
        · rw [List.getElem?_set_ne (by omega), List.getElem?_set_self h7]
        · rw [List.getElem?_set_self (by simpa using h8)]; rfl
        · rw [HF.out]
          rcases Nat.lt_or_ge j2 rs.length with h | h
          · refine .inr ⟨rs[j2], List.getElem?_eq_getElem h, Nat.zero_le _, ?_⟩
            rw [List.drop_eq_getElem_cons h, ivNums_cons]; simp
          · refine .inl ⟨by omega, ?_⟩
            rw [List.drop_eq_nil_of_le h]; simp [ivNums]
      · obtain ⟨hW, p0, hp0, hp1⟩ := T2.out rfl
        subst hW
        obtain ⟨p, hp, rfl⟩ : ∃ p, rs[j2]? = some p ∧ p0 = (p.1, p.1 + p.2) := by
          simp only [fl, List.getElem?_map, Option.map_eq_some_iff] at hp0
          obtain ⟨p, h1, h2⟩ := hp0
          exact ⟨p, h1, h2.symm⟩
        have hp2 := hT1.2.2.2 _ hp0
        simp only at hp1 hp2
        have hj2 := (List.getElem?_eq_some_iff.1 hp).1
        have HF := Lib.hid (fl_in HR.out Hr.out hk (by have := HC.out; omega) hT1.1 hp hp1 hp2 hT1.2.2.1)
        have cp := K4.out.cell2 id (HX.out.2.2.2.2.2.2 _ _ hp).1
        have HP := Lib.hid hp
        have w8 : IntKind.u16.wrap ((lo : Int) - (p.1 : Int)) = ((lo - p.1 : Nat) : Int) := by rw [IntWalk.u16_in _ (by omega)]; omega
        have i5 : (j2 : Int) < (m : Int) := by have := HX.out.2.2.2.2.1; omega
        have qI : ¬ q = I := by omega
        have hlp : lo - p.1 ≤ p.2 := by omega
        have gI : ¬ g = I := by omega
        clear hT1 hp hp0 hp2
        go_upto_region 4 with fail
        have hb5 := hb4.set 7 (.int .i64 (j2 : Int))
        have kk5 : Kept (fun k => k = I) w (w4.setCell ⟨I, 7, none⟩ (.int .i64 (j2 : Int))) := Mild.one K4.out I 7 _
        have n6 := hb5.cell 6
        have n7 := hb5.cell 7
        have n8 := hb5.cell 8
        have nf := hb5.free 8
        rw [List.getElem?_set_ne (by omega), HX.out.1] at n6
        rw [List.getElem?_set_self h7] at n7
        rw [List.getElem?_set_ne (by omega), HX.out.2.2.1] at n8
        have nq0 := kk5.cell2 qI HX.out.2.2.2.1
        have np := kk5.cell2 gI (HX.out.2.2.2.2.2.2 _ _ HP.out).1
        have HB5 := Lib.hid hb5
        have HK5 := Lib.hid kk5
        clear hb5 kk5 hb4 e6 e7 e8 f7 f8 eq0 cp
        generalize w4.setCell ⟨I, 7, none⟩ (.int .i64 (j2 : Int)) = W5 at *
        go_region
        all_goals
          go_wp2
          go_end0
          have kk : Kept (fun k => k = I) w (W5.drew.setCell ⟨I, 8, none⟩ (.int .u16 ((lo - p.1 : Nat) : Int))) := Kept.setCell (S := fun k => k = I) (p := ⟨I, 8, none⟩) HK5.out.drew (fun _ => rfl) _
          obtain ⟨x1, x2, x3, x6, x7, x9, x10⟩ := HX.out
          refine ⟨rfl, _, HB5.out.drew.set 8 _, by simp, by rw [List.take_set_of_le (by omega), List.take_set_of_le (by omega)], ⟨q, g, j2, lo - p.1, m, c, rs, ?_, ?_, ?_, a4, a5, kk.cell2 qI x6, x7, a8, x9, fun i p hp => ⟨kk.cell2 gI (x10 i p hp).1, kk.cell2 gI (x10 i p hp).2⟩, HR.out, .inr ⟨p, HP.out, hlp, ?_⟩⟩, kk⟩
          · rw [List.getElem?_set_ne (by omega), List.getElem?_set_ne (by omega)]; exact x1
          · rw [List.getElem?_set_ne (by omega), List.getElem?_set_self h7]
          · rw [List.getElem?_set_self (by simpa using h8)]
          · exact HF.out

set_option maxRecDepth 100000 in
set_option maxHeartbeats 1000000 in
theorem biPeek_any (I o x : Nat) (w : World) (h1 : w.cell? ⟨I, o + 1, none⟩ = some (.int .i64 (x : Int))) (hx : x < 65536) :
    Calls Tryz.prog 174 #[.pointer (some ⟨I, o, none⟩)] w fun e w' => e = .returned (.int .u16 (x : Int)) ∧ Mild w w' := by
  have q1 : IntKind.u16.wrap (x : Int) = (x : Int) := IntWalk.u16_in _ (by omega)
  go_enter Tryz.func174, Tryz.ntmps174
  go_wp2
  go_ret
  exact ⟨rfl, Kept.refl _ _⟩

set_option maxRecDepth 100000 in
set_option maxHeartbeats 2000000 in
theorem lowB_adv (I H lo : Nat) (cs : List Value) (l : List Nat) (w : World) (hb : Blk w I IIty cs) (hI : H ≤ I) (hT : Tab w) (h : LowB w H cs l) (hs : Rising l) (hne : l ≠ []) (hlo : lo < 65536) :
    Calls Tryz.prog 171 #[.pointer (some ⟨I, 9, none⟩), .int .u16 (lo : Int)] w fun e w' => e = .returned (.tuple #[]) ∧ ∃ cs', Blk w' I IIty cs' ∧ cs'.length = cs.length ∧ cs'.take 4 = cs.take 4 ∧ LowB w' H cs' (frm lo l) ∧ Kept (fun k => k = I) w w' := by
  have CH := Lib.hid (lowB_has I H cs l w hb h)
  have HL := Lib.hid h
  obtain ⟨p, g, c, ws, i, a1, a2, a3, a4, a5, a6, a7, a8, a9, rfl⟩ := h
  obtain ⟨x, l2, hl2⟩ := List.exists_cons_of_ne_nil hne
  have he : decide (restFrom (bitOf ws) i ≠ []) = true := by simpa using hne
  rw [he] at CH
  have hx := (rest_mem2 (bitOf ws) i x).1 (by rw [hl2]; simp)
  rw [nsb_cons hl2] at a2
  have b9 := (hb.cell 9).trans a1
  have b10 := (hb.cell 10).trans a2
  have CP := Lib.hid (fun (W : World) (k : Mild w W) => biPeek_any I 9 x W (k.cell2 id b10) hx.2.1)
  have HB := Lib.hid hb
  by_cases hc : lo ≤ x
  · have i1 : ¬ (x : Int) < (lo : Int) := by omega
    have HF := Lib.hid (show frm lo (restFrom (bitOf ws) i) = restFrom (bitOf ws) i by rw [hl2]; exact frm_head (hl2 ▸ hs) hc)
    clear he hs hne hb a1 a2 hl2 hx a6 a7 a9
    go_enter Tryz.func171, Tryz.ntmps171
    go_wp2_with (first
      | (go_at_call 172; (with_reducible refine CH.out.mono ?_); rintro ed w1 ⟨rfl, k1⟩; have K1 := Lib.hid k1)
      | (go_at_call 174; (with_reducible refine (CP.out _ K1.out).mono ?_); rintro ed w2 ⟨rfl, k2⟩; have K2 := Lib.hid (K1.out.trans k2); clear k2)
      | fail)
    go_end0
    exact ⟨rfl, cs, HB.out.kept K2.out id, rfl, rfl, by rw [HF.out]; exact HL.out.kept K2.out (fun _ _ => id), K2.out.mono (fun _ _ => False.elim)⟩
  · have i1 : (x : Int) < (lo : Int) := by omega
    have h10 : 10 < cs.length := (List.getElem?_eq_some_iff.1 a2).1
    have HF := Lib.hid (frm_rest (bitOf ws) (show i ≤ lo by omega))
    have NS := Lib.hid (fun (W : World) (k : Mild w W) => nsb_int p g c ws lo (lo : Int) W rfl a6 a7 (by omega) (fun i hi => k.cell2 id (hT i hi)) (k.cell2 id a8) (a9.kept k (fun _ _ => id)))
    have q1 : IntKind.u64.wrap (lo : Int) = (lo : Int) := IntWalk.u64_in _ (by omega)
    have HX := Lib.hid (And.intro a1 (And.intro a6 (And.intro a7 (And.intro a8 a9))))
    clear he hs hne hb a1 a2 hl2 hx a6 a7 a9 a8
    go_enter Tryz.func171, Tryz.ntmps171
    go_wp2_with (first
      | (go_at_call 172; (with_reducible refine CH.out.mono ?_); rintro ed w1 ⟨rfl, k1⟩; have K1 := Lib.hid k1)
      | (go_at_call 174; (with_reducible refine (CP.out _ K1.out).mono ?_); rintro ed w2 ⟨rfl, k2⟩; have K2 := Lib.hid (K1.out.trans k2); clear k2; have d9 := K2.out.cell2 id b9; have d10 := K2.out.cell2 id b10; have f10 := (HB.out.kept K2.out id).free 10)
      | (go_at_call 33; (with_reducible refine (NS.out _ K2.out).mono ?_); rintro ed w3 ⟨rfl, rfl⟩)
      | fail)
    go_end0
    obtain ⟨x1, x6, x7, x8, x9⟩ := HX.out
    have kk : Kept (fun k => k = I) w (w2.setCell ⟨I, 10, none⟩ (.int .i64 (nsb ws lo))) := Mild.one K2.out I 10 _
    refine ⟨rfl, _, (HB.out.kept K2.out id).set 10 _, by simp, by rw [List.take_set_of_le (by omega)], ⟨p, g, c, ws, lo, ?_, ?_, by omega, a4, a5, x6, x7, kk.cell2 (by show ¬ p = I; omega) x8, x9.kept kk (by intro b hb; simp at hb; subst hb; show ¬ b = I; omega), HF.out⟩, kk⟩
    · rw [List.getElem?_set_ne (by omega)]; exact x1
    · rw [List.getElem?_set_self h10]
end Go.Proofs

namespace Go.Proofs
open Go.RowKit Go.Roar
theorem ahead_siadv (a : Addr) (w : World) : (nilAhead 286 94 (.pointer (some a)) "loop.example/pub-g03248/pub/roaring.advanceIfNeeded").run Tryz.prog w = .ok (some false) w := by kernel_rfl
theorem method_siadv (a : Addr) (w : World) : (method 286 94 (.pointer (some a)) "loop.example/pub-g03248/pub/roaring.advanceIfNeeded").run Tryz.prog w = .ok (162, .pointer (some a)) w := by kernel_rfl
theorem call_siadv (v : Value) (s : Int) (w : World) : (callFunc 162 #[v, .int .u16 s]).run Tryz.prog w = .ok (.enter 162 #[v, .int .u16 s]) w := by kernel_rfl
theorem call_sihas (v : Value) (w : World) : (callFunc 163 #[v]).run Tryz.prog w = .ok (.enter 163 #[v]) w := by kernel_rfl
theorem ahead_riadv (a : Addr) (w : World) : (nilAhead 286 95 (.pointer (some a)) "loop.example/pub-g03248/pub/roaring.advanceIfNeeded").run Tryz.prog w = .ok (some false) w := by kernel_rfl
theorem method_riadv (a : Addr) (w : World) : (method 286 95 (.pointer (some a)) "loop.example/pub-g03248/pub/roaring.advanceIfNeeded").run Tryz.prog w = .ok (167, .pointer (some a)) w := by kernel_rfl
theorem call_riadv (v : Value) (s : Int) (w : World) : (callFunc 167 #[v, .int .u16 s]).run Tryz.prog w = .ok (.enter 167 #[v, .int .u16 s]) w := by kernel_rfl
theorem call_rihas (v : Value) (w : World) : (callFunc 168 #[v]).run Tryz.prog w = .ok (.enter 168 #[v]) w := by kernel_rfl
theorem ahead_biadv (a : Addr) (w : World) : (nilAhead 286 97 (.pointer (some a)) "loop.example/pub-g03248/pub/roaring.advanceIfNeeded").run Tryz.prog w = .ok (some false) w := by kernel_rfl
theorem method_biadv (a : Addr) (w : World) : (method 286 97 (.pointer (some a)) "loop.example/pub-g03248/pub/roaring.advanceIfNeeded").run Tryz.prog w = .ok (171, .pointer (some a)) w := by kernel_rfl
theorem call_biadv (v : Value) (s : Int) (w : World) : (callFunc 171 #[v, .int .u16 s]).run Tryz.prog w = .ok (.enter 171 #[v, .int .u16 s]) w := by kernel_rfl
theorem call_bihas (v : Value) (w : World) : (callFunc 172 #[v]).run Tryz.prog w = .ok (.enter 172 #[v]) w := by kernel_rfl
/-- What the iterator of a container can do, told by what it holds. -/
structure LFace (H I : Nat) (tt : TypeId) (o fa fh : Nat) (Lk : World → List Value → List Nat → Prop) : Prop where
  back : ∀ (w : World) (cs : List Value) (l : List Nat), cs[2]? = some (.iface tt (.pointer (some ⟨I, o, none⟩))) → Lk w cs l → Low w H I cs l
  a1 : ∀ w, (nilAhead 286 tt (.pointer (some ⟨I, o, none⟩)) "loop.example/pub-g03248/pub/roaring.advanceIfNeeded").run Tryz.prog w = .ok (some false) w
  a2 : ∀ w, (method 286 tt (.pointer (some ⟨I, o, none⟩)) "loop.example/pub-g03248/pub/roaring.advanceIfNeeded").run Tryz.prog w = .ok (fa, .pointer (some ⟨I, o, none⟩)) w
  a3 : ∀ (s : Int) w, (callFunc fa #[.pointer (some ⟨I, o, none⟩), .int .u16 s]).run Tryz.prog w = .ok (.enter fa #[.pointer (some ⟨I, o, none⟩), .int .u16 s]) w
  h1 : ∀ w, (nilAhead 286 tt (.pointer (some ⟨I, o, none⟩)) "loop.example/pub-g03248/pub/roaring.hasNext").run Tryz.prog w = .ok (some false) w
  h2 : ∀ w, (method 286 tt (.pointer (some ⟨I, o, none⟩)) "loop.example/pub-g03248/pub/roaring.hasNext").run Tryz.prog w = .ok (fh, .pointer (some ⟨I, o, none⟩)) w
  h3 : ∀ w, (callFunc fh #[.pointer (some ⟨I, o, none⟩)]).run Tryz.prog w = .ok (.enter fh #[.pointer (some ⟨I, o, none⟩)]) w
  adv : ∀ (lo : Nat) (cs : List Value) (l : List Nat) (w : World), Blk w I IIty cs → Lk w cs l → Tab w → Rising l → l ≠ [] → lo < 65536 → (∀ x ∈ l, x < 65536) → Calls Tryz.prog fa #[.pointer (some ⟨I, o, none⟩), .int .u16 (lo : Int)] w fun e w' => e = .returned (.tuple #[]) ∧ ∃ cs', Blk w' I IIty cs' ∧ cs'.length = cs.length ∧ cs'.take 4 = cs.take 4 ∧ Lk w' cs' (frm lo l) ∧ Kept (fun k => k = I) w w'
  has : ∀ (cs : List Value) (l : List Nat) (w : World), Blk w I IIty cs → Lk w cs l → Calls Tryz.prog fh #[.pointer (some ⟨I, o, none⟩)] w fun e w' => e = .returned (.bool (decide (l ≠ []))) ∧ Mild w w'
  mild : ∀ (cs : List Value) (l : List Nat) (w w' : World), Lk w cs l → Mild w w' → Lk w' cs l
theorem low_face {H I : Nat} {cs : List Value} {l : List Nat} {w : World} (hI : H ≤ I) (h : Low w H I cs l) : ∃ (tt : TypeId) (o fa fh : Nat) (Lk : World → List Value → List Nat → Prop), cs[2]? = some (.iface tt (.pointer (some ⟨I, o, none⟩))) ∧ Lk w cs l ∧ LFace H I tt o fa fh Lk := by
  rcases h with ⟨h2, h⟩ | ⟨h2, h⟩ | ⟨h2, h⟩
  · exact ⟨_, _, _, _, fun w cs l => LowS w H cs l, h2, h, ⟨fun w cs l a b => .inl ⟨a, b⟩, fun w => ahead_siadv _ w, fun w => method_siadv _ w, fun s w => call_siadv _ s w, fun w => ahead_sihas _ w, fun w => method_sihas _ w, fun w => call_sihas _ w,
      fun lo cs l w hb hL _ hs hn _ hx => lowS_adv I H lo cs l w hb hI hL hs hn hx, fun cs l w hb hL => lowS_has I H cs l w hb hL, fun cs l w w' a k => a.kept k (fun _ _ => id)⟩⟩
  · exact ⟨_, _, _, _, fun w cs l => LowR w H cs l, h2, h, ⟨fun w cs l a b => .inr (.inl ⟨a, b⟩), fun w => ahead_riadv _ w, fun w => method_riadv _ w, fun s w => call_riadv _ s w, fun w => ahead_rihas _ w, fun w => method_rihas _ w, fun w => call_rihas _ w,
      fun lo cs l w hb hL _ hs hn hlo hx => lowR_adv I H lo cs l w hb hI hL hn hlo, fun cs l w hb hL => lowR_has I H cs l w hb hL, fun cs l w w' a k => a.kept k (fun _ _ => id)⟩⟩
  · exact ⟨_, _, _, _, fun w cs l => LowB w H cs l, h2, h, ⟨fun w cs l a b => .inr (.inr ⟨a, b⟩), fun w => ahead_biadv _ w, fun w => method_biadv _ w, fun s w => call_biadv _ s w, fun w => ahead_bihas _ w, fun w => method_bihas _ w, fun w => call_bihas _ w,
      fun lo cs l w hb hL hT hs hn hlo hx => lowB_adv I H lo cs l w hb hI hT hL hs hn hlo, fun cs l w hb hL => lowB_has I H cs l w hb hL, fun cs l w w' a k => a.kept k (fun _ _ => id)⟩⟩
end Go.Proofs
