/-
  laws.FnAddOne: the walk: it returns true.
-/
import Derived.Test.YtgohhikcmajmoaaGreatDoorJSpn
import Derived.Test.YtgohhikcmajmoaaGreatDoorKIs
import Derived.Test.YtgohhikcmajmoaaGreatDoorKMb
import Derived.Test.YtgohhikcmajmoaaGreatDoorKSet
import Derived.Test.YtgohhikcmajmoaaGreatDoorJHs
import Derived.Test.YtgohhikcmajmoaaGreatDoorJOrp
import Derived.Test.YtgohhikcmajmoaaGreatDoorKAoL
namespace Go.Roar
open Go.RowKit Go.Proofs
theorem set_or4 {e : Ending} {w w' : World} {u : Value} {rs : List (Nat × Nat)} (hu : SG w u rs) (hb : ∀ r ∈ rs, r.1 < 4294967296 ∧ r.2 < 4294967296) (hT : Tab w) (hTs : 0 < w.heap.size) (k : Mild w w')
    (h : (∃ v, e = .returned (.tuple #[v, .bool false])) ∨ ∃ v s, e = .returned (.tuple #[v, .bool true]) ∧ RV w' v s ∧ RgOK 4294967296 s ∧ rgCard s ≤ 200000 ∧ s.length ≤ 400 ∧ rs.length ≤ 400 ∧ rgCard (keep rs) ≤ 200000 ∧ ∀ x, x ∈ rgNums s ↔ inR rs x) :
    ∃ v ok s, e = .returned (.tuple #[v, .bool ok]) ∧ (ok = true → RV w' v s ∧ Spans w' u rs s ∧ s.length ≤ 400) := by
  rcases h with ⟨v, rfl⟩ | ⟨v, s, rfl, h1, h2, h3, h4, h5, h6, h7⟩
  · exact ⟨v, false, [], rfl, fun h => by cases h⟩
  · exact ⟨v, true, s, rfl, fun _ => ⟨h1, ⟨Go.Roar.SG.mild hu k, hb, h5, h6, h2, h7, h3, fun i hi => k.cell2 id (hT i hi), Nat.lt_of_lt_of_le hTs k.size⟩, h4⟩⟩
/-- A set with one number more. -/
theorem plus_one {s : List (Nat × Nat)} {x : Nat} (hs : RgOK 4294967296 s) (hx : x < 4294967296) : ∃ s', RgOK 4294967296 s' ∧ ∀ y, y ∈ rgNums s' ↔ y ∈ rgNums s ∨ y = x := by
  obtain ⟨h1, h2⟩ := runsOf_ok (n := 4294967296) (addS (rgNums s) x (x + 1)) (addS_sorted (rgNums_rising hs) (Nat.le_succ x)) (addS_lt (rgNums_lt hs) (Nat.le_succ x) hx)
  refine ⟨_, h1, fun y => ?_⟩
  rw [h2, addS_mem (Nat.le_succ x)]
  exact or_congr Iff.rfl ⟨fun h => by omega, fun h => by omega⟩
theorem rg_same {s s' : List (Nat × Nat)} {n : Nat} (h : RgOK n s) (h' : RgOK n s') (hm : ∀ x, x ∈ rgNums s ↔ x ∈ rgNums s') : s = s' := by
  have e := sorted_ext (rgNums_rising h) (rgNums_rising h') hm
  rw [← runsOf_back h, ← runsOf_back h', e]
theorem rg_len_card (s : List (Nat × Nat)) : s.length ≤ rgCard s := by
  induction s with
  | nil => exact Nat.le_refl _
  | cons r l ih => rw [rgCard_cons, List.length_cons]; omega
theorem one_rv {w : World} {g x : Nat} (h : Blk w g 33 [.int .i64 (x : Int), .int .i64 (x : Int)]) : RV w (.slice (some ⟨g, 0, none⟩) 1 1) [(x, x)] :=
  ⟨some ⟨g, 0, none⟩, 1, rfl, fun i r hi => by
    rcases i with _ | i
    · simp at hi; subst hi
      exact ⟨g, rfl, h.cell 0, h.cell 1⟩
    · simp at hi⟩
theorem has_in {s : List (Nat × Nat)} (hs : RgOK 4294967296 s) (x : Nat) : hasR s x = decide (x ∈ rgNums s) := by
  rw [Bool.eq_iff_iff, hasR_iff, decide_eq_true_eq, rgNums_mem (fun r hr => (hs.1 r hr).1)]
  exact Iff.rfl
end Go.Roar
namespace Go.Proofs
open Go.RowKit Go.Roar

set_option maxRecDepth 100000 in
set_option maxHeartbeats 4000000 in
theorem lawA_any (u : Value) (rs : List (Nat × Nat)) (x y : Nat) (w : World) (hu : SG w u rs) (hb : ∀ r ∈ rs, r.1 < 4294967296 ∧ r.2 < 4294967296) (hx : x < 4294967296) (hy : y < 256) (hT : Tab w) (hTs : 0 < w.heap.size) :
    Calls Tryz.prog 3 #[u, .int .u32 (x : Int), .int .u8 (y : Int)] w fun e w' => e = .returned (.bool true) ∧ Mild w w' := by
  have hSet := fun (h : rs.length ≤ 2147483647) => set_any made_any u rs w hu hb h
  have Hor := Lib.hid (fun (e : Ending) (w' : World) (k : Mild w w') => set_or4 (e := e) hu hb hT hTs k)
  obtain ⟨B, d, rfl, _⟩ := hu
  have HS := Lib.hid hSet
  clear hSet hT hb
  generalize hln : rs.length = nr at *
  have Hln := Lib.hid hln
  clear hln
  by_cases h1 : nr ≤ 2147483647
  · have Hset := Lib.hid (HS.out h1)
    have i1 : ¬ ((2147483647 : Int) < (nr : Int)) := by omega
    have r1 : ((y : Int)).tmod 2 = ((y % 2 : Nat) : Int) := by rw [Int.tmod_eq_emod_of_nonneg (by omega)]; omega
    have r2 : IntKind.i64.wrap ((y % 2 : Nat) : Int) = ((y % 2 : Nat) : Int) := IntWalk.i64_in _ (by omega)
    have hm2 : y % 2 < 2 := Nat.mod_lt _ (by decide)
    generalize y % 2 = m at *
    clear HS
    go_enter Tryz.func3, Tryz.ntmps3
    go_upto_if 20 with (first
      | (go_at_call 4; (with_reducible refine Hset.out.mono ?_); rintro ed w1 ⟨k1, hor⟩; obtain ⟨v1, ok, s, rfl, hok⟩ := Hor.out _ _ k1 hor; have K1 := Lib.hid k1; have Hok := Lib.hid hok; clear k1 hor hok))
    cases ok
    · go_wp2_with fail
      go_ret
      exact ⟨rfl, K1.out⟩
    · obtain ⟨rv, hsp, hl⟩ := Hok.out rfl
      obtain ⟨s', hs1, hs2⟩ := plus_one hsp.ok hx
      obtain ⟨bb, hbb⟩ : ∃ bb, bb = decide (x ∈ rgNums s) := ⟨_, rfl⟩
      have hsb : ∀ r ∈ s, r.1 < 4294967296 ∧ r.2 < 4294967296 := fun r hr => by have := hsp.ok.1 r hr; omega
      have hsb' : ∀ r ∈ s', r.1 < 4294967296 ∧ r.2 < 4294967296 := fun r hr => by have := hs1.1 r hr; omega
      have hcs := Nat.le_trans (plus_card hsp.ok hs1 hs2) (Nat.succ_le_succ hsp.cs)
      have hln' : s'.length ≤ 1000000 := Nat.le_trans (rg_len_card s') (by omega)
      have AD := Lib.hid (show Calls Tryz.prog 5 #[.slice B nr d, .int .u32 (x : Int), .int .i64 (m : Int)] w1 fun e w' => ∃ v, e = .returned (.tuple #[v, .bool (!bb)]) ∧ Own w' 2 38 v s'.length (rgCells s') ∧ Mild w1 w' from by
        have := implAdd_any _ rs s s' x m w1 hsp hx hm2 hs1 hs2
        rw [decide_not, ← hbb] at this
        exact this)
      have HH := Lib.hid (fun (W : World) (k : Mild w1 W) => show Calls Tryz.prog 8 #[v1, .int .i64 (x : Int)] W fun e w' => e = .returned (.bool bb) ∧ Mild W w' from by
        have := has_any v1 s x W (rv.mild k) hsb (by omega)
        rw [has_in hsp.ok, ← hbb] at this
        exact this)
      have OR := Lib.hid (fun (W : World) (g : Nat) (k : Mild w1 W) (hb : Blk W g 33 [.int .i64 (x : Int), .int .i64 (x : Int)]) => show Calls Tryz.prog 7 #[v1, .slice (some ⟨g, 0, none⟩) 1 1] W fun e w' => ∃ v, e = .returned v ∧ RV w' v s' ∧ Mild W w' from by
        refine (or_any v1 (.slice (some ⟨g, 0, none⟩) 1 1) s [(x, x)] W (rv.mild k) (one_rv hb) (fun r hr => ?_) (by simp; omega)).mono ?_
        · rcases List.mem_append.1 hr with hr | hr
          · exact hsb r hr
          · simp at hr; subst hr; exact ⟨hx, hx⟩
        · rintro e w' ⟨v, s4, rfl, o1, o2, -, o4, o5⟩
          obtain rfl : s4 = s' := rg_same o2 hs1 (fun z => by rw [o4, inR_plus (fun r hr => (hsp.ok.1 r hr).1), hs2])
          exact ⟨v, rfl, RV.own o1, o5⟩)
      have IS := Lib.hid (fun (l u : Value) (W : World) (h1 : SV W l s') (h2 : RV W u s') => is_any l u s' W h1 h2 hsb' hln')
      have HSP := Lib.hid hsp
      clear rv hsp Hok hsb hsb' hs1 hs2 hbb
      cases bb
      all_goals
        go_wp2_with (first
          | (go_at_call 5; (with_reducible refine AD.out.mono ?_); rintro ed w2 ⟨v2, rfl, t1, t2⟩; have T1 := Lib.hid t1; have K2 := Lib.hid t2; clear t1 t2; have kA := Lib.hid (K2.out.alloc (.cells #[.int .i64 (x : Int), .int .i64 (x : Int)] 33)))
          | (go_at_call 7; (with_reducible refine (OR.out _ _ kA.out (Blk.new w2 33 [.int .i64 (x : Int), .int .i64 (x : Int)])).mono ?_); rintro ed w3 ⟨v3, rfl, t1, t2⟩; have T3 := Lib.hid t1; have K3 := Lib.hid t2; clear t1 t2; have S3 := Lib.hid (SV.kept (SV.own T1.out) (Kept.trans ((Kept.refl _ _).alloc (.cells #[.int .i64 (x : Int), .int .i64 (x : Int)] 33)) K3.out) (fun _ _ => id)))
          | (go_at_call 6; (with_reducible refine (IS.out _ _ _ S3.out T3.out).mono ?_); rintro ed w4 ⟨rfl, k4⟩; have K4 := Lib.hid (kA.out.trans (K3.out.trans k4)); clear k4)
          | (go_at_call 8; (with_reducible refine (HH.out _ K4.out).mono ?_); rintro ed w5 ⟨rfl, k5⟩; have K5 := Lib.hid (K4.out.trans k5); clear k5)
          | (go_at_call 9; (with_reducible refine (some_any _ (HSP.out.mild K5.out).tab (HSP.out.mild K5.out).tabs).mono ?_); rintro ed w6 ⟨rfl, k6⟩; have K6 := Lib.hid k6; clear k6)
          | fail)
        go_ret
        exact ⟨rfl, K1.out.trans (K5.out.trans K6.out)⟩
  · have i1 : (2147483647 : Int) < (nr : Int) := by omega
    go_enter Tryz.func3, Tryz.ntmps3
    go_wp2_with fail
    go_ret
    exact ⟨rfl, Kept.refl _ _⟩
end Go.Proofs
