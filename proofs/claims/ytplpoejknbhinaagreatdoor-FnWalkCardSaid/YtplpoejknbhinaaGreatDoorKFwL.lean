/-
  laws.FnWalk: the walk: it returns true.
-/
import Derived.Test.YtplpoejknbhinaaGreatDoorKIwk
import Derived.Test.YtplpoejknbhinaaGreatDoorJMb
import Derived.Test.YtplpoejknbhinaaGreatDoorJFip
import Derived.Test.YtplpoejknbhinaaGreatDoorKSet
namespace Go.Roar
open Go.RowKit Go.Proofs
theorem set_or5 {e : Ending} {w w' : World} {u : Value} {rs : List (Nat × Nat)} (hu : SG w u rs) (hb : ∀ r ∈ rs, r.1 < 4294967296 ∧ r.2 < 4294967296) (hT : Tab w) (hTs : 0 < w.heap.size) (k : Mild w w')
    (h : (∃ v, e = .returned (.tuple #[v, .bool false])) ∨ ∃ v s, e = .returned (.tuple #[v, .bool true]) ∧ RV w' v s ∧ RgOK 4294967296 s ∧ rgCard s ≤ 200000 ∧ s.length ≤ 400 ∧ rs.length ≤ 400 ∧ rgCard (keep rs) ≤ 200000 ∧ ∀ x, x ∈ rgNums s ↔ inR rs x) :
    ∃ v ok s, e = .returned (.tuple #[v, .bool ok]) ∧ (ok = true → RV w' v s ∧ Spans w' u rs s ∧ s.length ≤ 400) := by
  rcases h with ⟨v, rfl⟩ | ⟨v, s, rfl, h1, h2, h3, h4, h5, h6, h7⟩
  · exact ⟨v, false, [], rfl, fun h => by cases h⟩
  · exact ⟨v, true, s, rfl, fun _ => ⟨h1, ⟨Go.Roar.SG.mild hu k, hb, h5, h6, h2, h7, h3, fun i hi => k.cell2 id (hT i hi), Nat.lt_of_lt_of_le hTs k.size⟩, h4⟩⟩
theorem three_spans {w : World} {g : Nat} (h : Blk w g 40 [.int .u32 1, .int .u32 3]) (hT : Tab w) (hTs : 0 < w.heap.size) : Spans w (.slice (some ⟨g, 0, none⟩) 1 1) [(1, 3)] [(1, 3)] := by
  refine ⟨⟨some ⟨g, 0, none⟩, 1, rfl, fun i r hi => ?_⟩, ?_, by simp, by simp [keep, rgCard], ⟨?_, by simp⟩, fun x => ?_, by simp [rgCard], hT, hTs⟩
  · rcases i with _ | i
    · simp at hi; subst hi
      exact ⟨⟨g, 0, none⟩, rfl, h.cell 0, h.cell 1⟩
    · simp at hi
  · intro r hr; simp at hr; subst hr; exact ⟨by decide, by decide⟩
  · intro r hr; simp at hr; subst hr; exact ⟨by decide, by decide⟩
  · rw [rgNums_mem (by intro r hr; simp at hr; subst hr; decide)]
    exact Iff.rfl
theorem two_rv {w : World} {g x y : Nat} (h : Blk w g 36 [.int .i64 (x : Int), .int .i64 (y : Int)]) : RV w (.slice (some ⟨g, 0, none⟩) 1 1) [(x, y)] :=
  ⟨some ⟨g, 0, none⟩, 1, rfl, fun i r hi => by
    rcases i with _ | i
    · simp at hi; subst hi
      exact ⟨g, rfl, h.cell 0, h.cell 1⟩
    · simp at hi⟩
theorem rgn_from {s s' : List (Nat × Nat)} {n : Nat} (hs : RgOK 4294967296 s) (hs' : RgOK 4294967296 s') (h : ∀ x, x ∈ rgNums s' ↔ x ∈ rgNums s ∧ n ≤ x) : rgNums s' = frm n (rgNums s) :=
  sorted_ext (rgNums_rising hs') (frm_rising (rgNums_rising hs)) (fun x => by rw [h, frm_mem])
end Go.Roar
namespace Go.Proofs
open Go.RowKit Go.Roar

set_option maxRecDepth 100000 in
set_option maxHeartbeats 4000000 in
theorem lawW_any (u : Value) (rs : List (Nat × Nat)) (x n y : Nat) (w : World) (hu : SG w u rs) (hb : ∀ r ∈ rs, r.1 < 4294967296 ∧ r.2 < 4294967296) (hx : x < 4294967296) (hn : n < 65536) (hy : y < 256) (hT : Tab w) (hTs : 0 < w.heap.size) :
    Calls Tryz.prog 3 #[u, .int .u32 (x : Int), .int .u16 (n : Int), .int .u8 (y : Int)] w fun e w' => e = .returned (.bool true) ∧ Mild w w' := by
  have hSet := fun (h : rs.length ≤ 2147483647) => set_any made_any u rs w hu hb h
  have Hor := Lib.hid (fun (e : Ending) (w' : World) (k : Mild w w') => set_or5 (e := e) hu hb hT hTs k)
  obtain ⟨B, d, rfl, _⟩ := hu
  have HS := Lib.hid hSet
  clear hSet hT hb
  generalize hln : rs.length = nr at *
  have Hln := Lib.hid hln
  clear hln
  by_cases h1 : nr ≤ 2147483647
  · have Hset := Lib.hid (HS.out h1)
    have i1 : ¬ ((2147483647 : Int) < (nr : Int)) := by omega
    have r1 : ((y : Int)).tmod 2 = ((y % 2 : Nat) : Int) := by rw [Int.tmod_eq_emod_of_nonneg (by omega)]; omega
    have r2 : IntKind.i64.wrap ((y % 2 : Nat) : Int) = ((y % 2 : Nat) : Int) := IntWalk.i64_in _ (by omega)
    have hm2 : y % 2 < 2 := Nat.mod_lt _ (by decide)
    have r3 : ((n : Int)).tmod 1500 = ((n % 1500 : Nat) : Int) := by rw [Int.tmod_eq_emod_of_nonneg (by omega)]; omega
    have r4 : IntKind.i64.wrap ((n % 1500 : Nat) : Int) = ((n % 1500 : Nat) : Int) := IntWalk.i64_in _ (by omega)
    have hkk : n % 1500 < 1500 := Nat.mod_lt _ (by decide)
    generalize y % 2 = m at *
    generalize n % 1500 = k at *
    clear HS
    go_enter Tryz.func3, Tryz.ntmps3
    go_upto_region 5 with (first
      | (go_at_call 4; (with_reducible refine Hset.out.mono ?_); rintro ed w1 ⟨k1, hor⟩; obtain ⟨v1, ok, s, rfl, hok⟩ := Hor.out _ _ k1 hor; have K1 := Lib.hid k1; have Hok := Lib.hid hok; clear k1 hor hok)
      | fail)
    cases ok
    · go_wp2_with fail
      go_ret
      exact ⟨rfl, K1.out⟩
    · obtain ⟨rv, hsp, hl⟩ := Hok.out rfl
      have hsb : ∀ r ∈ s, r.1 < 4294967296 ∧ r.2 < 4294967296 := fun r hr => by have := hsp.ok.1 r hr; omega
      obtain ⟨L, hL⟩ : ∃ L, L = (frm x (rgNums s)).take k := ⟨_, rfl⟩
      have hLk : L.length ≤ k := by rw [hL, List.length_take]; exact Nat.min_le_left _ _
      have hLb : ∀ z ∈ L, z < 4294967296 := fun z hz => by
        rw [hL] at hz
        exact rgNums_lt hsp.ok z (frm_mem.1 (List.mem_of_mem_take hz)).1
      have WK := Lib.hid (show Calls Tryz.prog 6 #[.slice B nr d, .int .u32 (x : Int), .int .i64 (k : Int), .int .i64 (m : Int)] w1 fun e w' => ∃ v, e = .returned v ∧ Own w' 1 23 v L.length (u32s L) ∧ Mild w1 w' from by
        rw [hL]; exact implWalk_any _ rs s x k m w1 hsp hx (by omega) hm2)
      have AN := Lib.hid (fun (W : World) (g : Nat) (kk : Mild w1 W) (hb : Blk W g 36 [.int .i64 (x : Int), .int .i64 4294967295]) => show Calls Tryz.prog 8 #[v1, .slice (some ⟨g, 0, none⟩) 1 1] W fun e w' => ∃ v s2, e = .returned v ∧ RV w' v s2 ∧ RgOK 4294967296 s2 ∧ s2.length ≤ 400 ∧ rgNums s2 = frm x (rgNums s) ∧ Mild W w' from by
        refine (and_any v1 (.slice (some ⟨g, 0, none⟩) 1 1) s [(x, 4294967295)] W (rv.mild kk) (two_rv hb) hsb (fun r hr => ?_) (by omega) (by simp) (by simp; omega)).mono ?_
        · simp at hr; subst hr; exact ⟨hx, show (4294967295 : Nat) < 4294967296 by decide⟩
        · rintro e w' ⟨v, s4, rfl, o1, o2, o3, o4, o5⟩
          refine ⟨v, s4, rfl, RV.own o1, o2, by simp at o3; omega, rgn_from hsp.ok o2 (fun z => ?_), o5⟩
          rw [o4, inR_one, rgNums_mem (fun r hr => (hsp.ok.1 r hr).1)]
          constructor
          · rintro ⟨h1, h2, h3⟩; exact ⟨h1, h2⟩
          · rintro ⟨h1, h2⟩
            obtain ⟨r, hr, q1, q2⟩ := h1
            have := hsb r hr
            exact ⟨⟨r, hr, q1, q2⟩, h2, by simp only; omega⟩)
      have FI := Lib.hid (fun (u : Value) (s2 : List (Nat × Nat)) (W : World) (h1 : RV W u s2) (h2 : RgOK 4294967296 s2) (h3 : s2.length ≤ 400) (h4 : rgNums s2 = frm x (rgNums s)) => show Calls Tryz.prog 7 #[u, .int .i64 (k : Int)] W fun e w' => ∃ v, e = .returned v ∧ NV w' v (w64s L) ∧ Mild W w' from by
        refine (firstn_any u s2 k W h1 (fun r hr => h2.1 r hr) (by omega) (by omega)).mono ?_
        rintro e w' ⟨v, rfl, o1, o2, _⟩
        rw [h4, ← hL] at o1
        exact ⟨v, rfl, NV.own (e := 3) (n := L.length) o1, o2⟩)
      have NU := Lib.hid (fun (v u : Value) (W : World) (h1 : NV W v (u32s L)) (h2 : NV W u (w64s L)) => numbers_any v u L W h1 h2 hLb (by omega))
      have W3 := Lib.hid (fun (W : World) (g : Nat) (kk : Mild w1 W) (hb : Blk W g 40 [.int .u32 1, .int .u32 3]) => show Calls Tryz.prog 6 #[.slice (some ⟨g, 0, none⟩) 1 1, .int .u32 0, .int .i64 9, .int .i64 0] W fun e w' => ∃ A c, e = .returned (.slice A 3 c) ∧ Mild W w' from by
        refine (implWalk_any (.slice (some ⟨g, 0, none⟩) 1 1) [(1, 3)] [(1, 3)] 0 9 0 W (three_spans hb (hsp.mild kk).tab (hsp.mild kk).tabs) (by decide) (by decide) (by decide)).mono ?_
        rintro e w' ⟨v, rfl, o1, o2⟩
        have e3 : ((frm 0 (rgNums [(1, 3)])).take 9).length = 3 := by decide
        rw [e3] at o1
        obtain ⟨A, c, rfl⟩ := Own.form o1
        exact ⟨A, c, rfl, o2⟩)
      clear rv hsp Hok hsb hL hLk hLb
      go_wp2_with (first
        | (go_at_call 6; (with_reducible refine WK.out.mono ?_); rintro ed w2 ⟨v2, rfl, t1, t2⟩; have T1 := Lib.hid t1; have K2 := Lib.hid t2; clear t1 t2; have kA := Lib.hid (K2.out.alloc (.cells #[.int .i64 (x : Int), .int .i64 4294967295] 36)))
        | (go_at_call 8; (with_reducible refine (AN.out _ _ kA.out (Blk.new w2 36 [.int .i64 (x : Int), .int .i64 4294967295])).mono ?_); rintro ed w3 ⟨v3, s2, rfl, t1, t2, t3, t4, t5⟩; have T3 := Lib.hid t1; have T4 := Lib.hid t2; have T5 := Lib.hid t3; have T6 := Lib.hid t4; have K3 := Lib.hid t5; clear t1 t2 t3 t4 t5)
        | (go_at_call 7; (with_reducible refine (FI.out _ _ _ T3.out T4.out T5.out T6.out).mono ?_); rintro ed w4 ⟨v4, rfl, t1, t2⟩; have T7 := Lib.hid t1; have K4 := Lib.hid t2; clear t1 t2; have S3 := Lib.hid (NV.mild (NV.own T1.out) (((Kept.refl _ _).alloc (.cells #[.int .i64 (x : Int), .int .i64 4294967295] 36)).trans (K3.out.trans K4.out))))
        | (go_at_call 5; (with_reducible refine (NU.out _ _ _ S3.out T7.out).mono ?_); rintro ed w5 ⟨rfl, k5⟩; have K5 := Lib.hid (kA.out.trans (K3.out.trans (K4.out.trans k5))); clear k5)
        | (go_at_call 9; refine (three_any _).mono ?_; rintro ed w6 ⟨rfl, rfl⟩; have K6 := Lib.hid (K5.out.alloc (.cells #[.int .u32 1, .int .u32 3] 40)))
        | (go_at_call 6; (with_reducible refine (W3.out _ _ K6.out (Blk.new w5 40 [.int .u32 1, .int .u32 3])).mono ?_); rintro ed w7 ⟨A7, c7, rfl, k7⟩; have K7 := Lib.hid (K6.out.trans k7); clear k7)
        | fail)
      go_ret
      exact ⟨rfl, K1.out.trans K7.out⟩
  · have i1 : (2147483647 : Int) < (nr : Int) := by omega
    go_enter Tryz.func3, Tryz.ntmps3
    go_wp2_with fail
    go_ret
    exact ⟨rfl, Kept.refl _ _⟩
end Go.Proofs
