/-
  laws.FnRemoveOne: the walk: it returns true.
-/
import Derived.Test.YteagcndpegdojaaGreatDoorJRml
import Derived.Test.YteagcndpegdojaaGreatDoorKIs
import Derived.Test.YteagcndpegdojaaGreatDoorJMbi
import Derived.Test.YteagcndpegdojaaGreatDoorKSet
import Derived.Test.YteagcndpegdojaaGreatDoorJHs
import Derived.Test.YteagcndpegdojaaGreatDoorJAnp
namespace Go.Roar
open Go.RowKit Go.Proofs
theorem set_or9 {e : Ending} {w w' : World} {u : Value} {rs : List (Nat × Nat)} (hu : SG w u rs) (hb : ∀ r ∈ rs, r.1 < 4294967296 ∧ r.2 < 4294967296) (hT : Tab w) (hTs : 0 < w.heap.size) (k : Mild w w')
    (h : (∃ v, e = .returned (.tuple #[v, .bool false])) ∨ ∃ v s, e = .returned (.tuple #[v, .bool true]) ∧ RV w' v s ∧ RgOK 4294967296 s ∧ rgCard s ≤ 200000 ∧ s.length ≤ 400 ∧ rs.length ≤ 400 ∧ rgCard (keep rs) ≤ 200000 ∧ ∀ x, x ∈ rgNums s ↔ inR rs x) :
    ∃ v ok s, e = .returned (.tuple #[v, .bool ok]) ∧ (ok = true → RV w' v s ∧ Spans w' u rs s ∧ s.length ≤ 400) := by
  rcases h with ⟨v, rfl⟩ | ⟨v, s, rfl, h1, h2, h3, h4, h5, h6, h7⟩
  · exact ⟨v, false, [], rfl, fun h => by cases h⟩
  · exact ⟨v, true, s, rfl, fun _ => ⟨h1, ⟨Go.Roar.SG.mild hu k, hb, h5, h6, h2, h7, h3, fun i hi => k.cell2 id (hT i hi), Nat.lt_of_lt_of_le hTs k.size⟩, h4⟩⟩
theorem three_spans {w : World} {g : Nat} (h : Blk w g 48 [.int .u32 1, .int .u32 3]) (hT : Tab w) (hTs : 0 < w.heap.size) : Spans w (.slice (some ⟨g, 0, none⟩) 1 1) [(1, 3)] [(1, 3)] := by
  refine ⟨⟨some ⟨g, 0, none⟩, 1, rfl, fun i r hi => ?_⟩, ?_, by simp, by simp [keep, rgCard], ⟨?_, by simp⟩, fun x => ?_, by simp [rgCard], hT, hTs⟩
  · rcases i with _ | i
    · simp at hi; subst hi
      exact ⟨⟨g, 0, none⟩, rfl, h.cell 0, h.cell 1⟩
    · simp at hi
  · intro r hr; simp at hr; subst hr; exact ⟨by decide, by decide⟩
  · intro r hr; simp at hr; subst hr; exact ⟨by decide, by decide⟩
  · rw [rgNums_mem (by intro r hr; simp at hr; subst hr; decide)]
    exact Iff.rfl
theorem rg_same {s s' : List (Nat × Nat)} {n : Nat} (h : RgOK n s) (h' : RgOK n s') (hm : ∀ x, x ∈ rgNums s ↔ x ∈ rgNums s') : s = s' := by
  have e := sorted_ext (rgNums_rising h) (rgNums_rising h') hm
  rw [← runsOf_back h, ← runsOf_back h', e]
theorem rg_len_card (s : List (Nat × Nat)) : s.length ≤ rgCard s := by
  induction s with
  | nil => exact Nat.le_refl _
  | cons r l ih => rw [rgCard_cons, List.length_cons]; omega
theorem one_rv {w : World} {g x : Nat} (h : Blk w g 34 [.int .i64 (x : Int), .int .i64 (x : Int)]) : RV w (.slice (some ⟨g, 0, none⟩) 1 1) [(x, x)] :=
  ⟨some ⟨g, 0, none⟩, 1, rfl, fun i r hi => by
    rcases i with _ | i
    · simp at hi; subst hi
      exact ⟨g, rfl, h.cell 0, h.cell 1⟩
    · simp at hi⟩
theorem has_in {s : List (Nat × Nat)} (hs : RgOK 4294967296 s) (x : Nat) : hasR s x = decide (x ∈ rgNums s) := by
  rw [Bool.eq_iff_iff, hasR_iff, decide_eq_true_eq, rgNums_mem (fun r hr => (hs.1 r hr).1)]
  exact Iff.rfl
end Go.Roar
namespace Go.Proofs
open Go.RowKit Go.Roar

set_option maxRecDepth 100000 in
set_option maxHeartbeats 4000000 in
theorem lawR_any (u : Value) (rs : List (Nat × Nat)) (x y : Nat) (w : World) (hu : SG w u rs) (hb : ∀ r ∈ rs, r.1 < 4294967296 ∧ r.2 < 4294967296) (hx : x < 4294967296) (hy : y < 256) (hT : Tab w) (hTs : 0 < w.heap.size) :
    Calls Tryz.prog 3 #[u, .int .u32 (x : Int), .int .u8 (y : Int)] w fun e w' => e = .returned (.bool true) ∧ Mild w w' := by
  have hSet := fun (h : rs.length ≤ 2147483647) => set_any made_any u rs w hu hb h
  have Hor := Lib.hid (fun (e : Ending) (w' : World) (k : Mild w w') => set_or9 (e := e) hu hb hT hTs k)
  obtain ⟨B, d, rfl, _⟩ := hu
  have HS := Lib.hid hSet
  clear hSet hT hb
  generalize hln : rs.length = nr at *
  have Hln := Lib.hid hln
  clear hln
  by_cases h1 : nr ≤ 2147483647
  · have Hset := Lib.hid (HS.out h1)
    have i1 : ¬ ((2147483647 : Int) < (nr : Int)) := by omega
    have r1 : ((y : Int)).tmod 2 = ((y % 2 : Nat) : Int) := by rw [Int.tmod_eq_emod_of_nonneg (by omega)]; omega
    have r2 : IntKind.i64.wrap ((y % 2 : Nat) : Int) = ((y % 2 : Nat) : Int) := IntWalk.i64_in _ (by omega)
    have hm2 : y % 2 < 2 := Nat.mod_lt _ (by decide)
    generalize y % 2 = m at *
    clear HS
    go_enter Tryz.func3, Tryz.ntmps3
    go_upto_if 22 with (first
      | (go_at_call 5; (with_reducible refine Hset.out.mono ?_); rintro ed w1 ⟨k1, hor⟩; obtain ⟨v1, ok, s, rfl, hok⟩ := Hor.out _ _ k1 hor; have K1 := Lib.hid k1; have Hok := Lib.hid hok; clear k1 hor hok))
    cases ok
    · go_wp2_with fail
      go_ret
      exact ⟨rfl, K1.out⟩
    · obtain ⟨rv, hsp, hl⟩ := Hok.out rfl
      obtain ⟨s', hs1, hs2, hs3⟩ := minus_one (x := x) hsp.ok
      obtain ⟨bb, hbb⟩ : ∃ bb, bb = decide (x ∈ rgNums s) := ⟨_, rfl⟩
      have hsb : ∀ r ∈ s, r.1 < 4294967296 ∧ r.2 < 4294967296 := fun r hr => by have := hsp.ok.1 r hr; omega
      have hsb' : ∀ r ∈ s', r.1 < 4294967296 ∧ r.2 < 4294967296 := fun r hr => by have := hs1.1 r hr; omega
      have hln' : s'.length ≤ 1000000 := Nat.le_trans (rg_len_card s') (Nat.le_trans hs3 (Nat.le_trans hsp.cs (by decide)))
      have RM := Lib.hid (show Calls Tryz.prog 6 #[.slice B nr d, .int .u32 (x : Int), .int .i64 (m : Int)] w1 fun e w' => ∃ v, e = .returned (.tuple #[v, .bool bb]) ∧ Own w' 2 48 v s'.length (rgCells s') ∧ Mild w1 w' from by
        have := implRemove_any _ rs s s' x m w1 hsp hx hm2 hs1 hs2 hs3
        rw [← hbb] at this
        exact this)
      have R3 := Lib.hid (fun (W : World) (g : Nat) (kk : Mild w1 W) (hb : Blk W g 48 [.int .u32 1, .int .u32 3]) => show Calls Tryz.prog 6 #[.slice (some ⟨g, 0, none⟩) 1 1, .int .u32 2, .int .i64 0] W fun e w' => ∃ v, e = .returned (.tuple #[v, .bool true]) ∧ Mild W w' from by
        have hsp3 := three_spans hb (hsp.mild kk).tab (hsp.mild kk).tabs
        obtain ⟨s3, a1, a2, a3⟩ := minus_one (x := 2) hsp3.ok
        refine (implRemove_any (.slice (some ⟨g, 0, none⟩) 1 1) [(1, 3)] [(1, 3)] s3 2 0 W hsp3 (by decide) (by decide) a1 a2 a3).mono ?_
        rintro e w' ⟨v, rfl, o1, o2⟩
        rw [show decide (2 ∈ rgNums [(1, 3)]) = true from by decide]
        exact ⟨v, rfl, o2⟩)
      have HH := Lib.hid (fun (W : World) (k : Mild w1 W) => show Calls Tryz.prog 10 #[v1, .int .i64 (x : Int)] W fun e w' => e = .returned (.bool bb) ∧ Mild W w' from by
        have := has_any v1 s x W (rv.mild k) hsb (by omega)
        rw [has_in hsp.ok, ← hbb] at this
        exact this)
      have LS := Lib.hid (fun (W : World) (g : Nat) (k : Mild w1 W) (hb : Blk W g 34 [.int .i64 (x : Int), .int .i64 (x : Int)]) => show Calls Tryz.prog 9 #[v1, .slice (some ⟨g, 0, none⟩) 1 1] W fun e w' => ∃ v, e = .returned v ∧ RV w' v s' ∧ Mild W w' from by
        have hone : RgOK 4294967296 [(x, x)] := ⟨by intro r hr; simp at hr; subst hr; exact ⟨Nat.le_refl _, hx⟩, by simp⟩
        refine (less_any v1 (.slice (some ⟨g, 0, none⟩) 1 1) s [(x, x)] W (rv.mild k) (one_rv hb) hsb hone (by omega) (by simp) (by simp; omega)).mono ?_
        rintro e w' ⟨v, s4, rfl, o1, o2, -, o4, o5⟩
        obtain rfl : s4 = s' := rg_same o2 hs1 (fun z => by
          rw [o4, hs2, inR_one, rgNums_mem (fun r hr => (hsp.ok.1 r hr).1)]
          simp only
          exact and_congr Iff.rfl ⟨fun h e => h ⟨by omega, by omega⟩, fun h e => h (by omega)⟩)
        exact ⟨v, rfl, RV.own o1, o5⟩)
      have IS := Lib.hid (fun (l u : Value) (W : World) (h1 : SV W l s') (h2 : RV W u s') => is_any l u s' W h1 h2 hsb' hln')
      clear rv hsp Hok hsb hsb' hs1 hs2 hs3 hbb
      cases bb
      all_goals
        go_wp2_with (first
          | (go_at_call 6; (with_reducible refine RM.out.mono ?_); rintro ed w2 ⟨v2, rfl, t1, t2⟩; have T1 := Lib.hid t1; have K2 := Lib.hid t2; clear t1 t2)
          | (go_at_call 7; refine (three_any _).mono ?_; rintro ed w3 ⟨rfl, rfl⟩; have K3 := Lib.hid (K2.out.alloc (.cells #[.int .u32 1, .int .u32 3] 48)))
          | (go_at_call 6; (with_reducible refine (R3.out _ _ K3.out (Blk.new w2 48 [.int .u32 1, .int .u32 3])).mono ?_); rintro ed w4 ⟨v4, rfl, t1⟩; have K4 := Lib.hid (K3.out.trans t1); have S4 := Lib.hid (SV.kept (SV.own T1.out) (Kept.trans ((Kept.refl _ _).alloc (.cells #[.int .u32 1, .int .u32 3] 48)) t1) (fun _ _ => id)); have kA := Lib.hid (K4.out.alloc (.cells #[.int .i64 (x : Int), .int .i64 (x : Int)] 34)); clear t1)
          | (go_at_call 9; (with_reducible refine (LS.out _ _ kA.out (Blk.new w4 34 [.int .i64 (x : Int), .int .i64 (x : Int)])).mono ?_); rintro ed w5 ⟨v5, rfl, t1, t2⟩; have T5 := Lib.hid t1; have K5 := Lib.hid t2; clear t1 t2; have S5 := Lib.hid (SV.kept S4.out (Kept.trans ((Kept.refl _ _).alloc (.cells #[.int .i64 (x : Int), .int .i64 (x : Int)] 34)) K5.out) (fun _ _ => id)))
          | (go_at_call 8; (with_reducible refine (IS.out _ _ _ S5.out T5.out).mono ?_); rintro ed w6 ⟨rfl, k6⟩; have K6 := Lib.hid (kA.out.trans (K5.out.trans k6)); clear k6)
          | (go_at_call 10; (with_reducible refine (HH.out _ K6.out).mono ?_); rintro ed w7 ⟨rfl, k7⟩; have K7 := Lib.hid (K6.out.trans k7); clear k7)
          | fail)
        go_ret
        exact ⟨rfl, K1.out.trans K7.out⟩
  · have i1 : (2147483647 : Int) < (nr : Int) := by omega
    go_enter Tryz.func3, Tryz.ntmps3
    go_wp2_with fail
    go_ret
    exact ⟨rfl, Kept.refl _ _⟩
end Go.Proofs
