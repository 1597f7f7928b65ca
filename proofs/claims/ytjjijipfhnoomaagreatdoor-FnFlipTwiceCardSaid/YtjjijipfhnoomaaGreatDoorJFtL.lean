/-
  laws.FnFlipTwice: the walk: it returns true.
  laws.FnFlipTwice returns true for every input: the row's proof, at the table that its initialiser lays.
-/
import Derived.Test.YtjjijipfhnoomaaGreatDoorJSpb
import Derived.Test.YtjjijipfhnoomaaGreatDoorJIs
import Derived.Test.YtjjijipfhnoomaaGreatDoorJWh
import Derived.Test.YtjjijipfhnoomaaGreatDoorRows
import Derived.WalkKit
import Derived.ProofKit
import Derived.OpenShut
import Derived.ShutString
import Derived.ChangeOld
import Derived.Below
import Derived.LaidMore
import Derived.Deep.SlicePairs
import Derived.Deep.Grids
import Derived.Stop.Joined
namespace Go.Roar
open Go.RowKit Go.Proofs
theorem set_orF {e : Ending} {w w' : World} {u : Value} {rs : List (Nat × Nat)} (hu : SG w u rs) (hb : ∀ r ∈ rs, r.1 < 4294967296 ∧ r.2 < 4294967296) (hT : Tab w) (hTs : 0 < w.heap.size) (k : Mild w w')
    (h : (∃ v, e = .returned (.tuple #[v, .bool false])) ∨ ∃ v s, e = .returned (.tuple #[v, .bool true]) ∧ RV w' v s ∧ RgOK 4294967296 s ∧ rgCard s ≤ 200000 ∧ s.length ≤ 400 ∧ rs.length ≤ 400 ∧ rgCard (keep rs) ≤ 200000 ∧ ∀ x, x ∈ rgNums s ↔ inR rs x) :
    ∃ v ok s, e = .returned (.tuple #[v, .bool ok]) ∧ (ok = true → RV w' v s ∧ Spans w' u rs s ∧ s.length ≤ 400) := by
  rcases h with ⟨v, rfl⟩ | ⟨v, s, rfl, h1, h2, h3, h4, h5, h6, h7⟩
  · exact ⟨v, false, [], rfl, fun h => by cases h⟩
  · exact ⟨v, true, s, rfl, fun _ => ⟨h1, ⟨Go.Roar.SG.mild hu k, hb, h5, h6, h2, h7, h3, fun i hi => k.cell2 id (hT i hi), Nat.lt_of_lt_of_le hTs k.size⟩, h4⟩⟩
/-- A set in which a range is turned round. -/
theorem flip_set {s : List (Nat × Nat)} {a b : Nat} (hs : RgOK 4294967296 s) (hab : a ≤ b) (hb : b ≤ 4294967296) :
    ∃ s1, RgOK 4294967296 s1 ∧ (∀ y, y ∈ rgNums s1 ↔ (y ∈ rgNums s ∧ ¬ (a ≤ y ∧ y < b)) ∨ (y ∉ rgNums s ∧ a ≤ y ∧ y < b)) ∧ s1.length ≤ s.length + 1 ∧ rgCard s1 ≤ rgCard s + (b - a) := by
  have hr := rgNums_rising hs
  have hl : ∀ x ∈ rgNums s, x < 4294967296 := fun x hx => by
    obtain ⟨r, h1, h2, h3⟩ := (rgNums_mem (fun r h => (hs.1 r h).1) x).1 hx
    have := (hs.1 r h1).2
    omega
  have hr' := xorS_rising hr hab
  have hl' := xorS_lt hl hab hb
  obtain ⟨o1, o2⟩ := runsOf_ok (n := 4294967296) (xorS (rgNums s) a b) hr' hl'
  have hm : ∀ y, y ∈ rgNums (runsOf (xorS (rgNums s) a b)) ↔ (y ∈ rgNums s ∧ ¬ (a ≤ y ∧ y < b)) ∨ (y ∉ rgNums s ∧ a ≤ y ∧ y < b) := fun y => by rw [o2]; exact xorS_mem hab
  refine ⟨runsOf (xorS (rgNums s) a b), o1, hm, ?_, ?_⟩
  · have := runs_flip hr hr' hl hl' hab hb (fun y => xorS_mem hab)
    rwa [runsOf_back hs] at this
  · rw [← rgNums_length, o2, ← rgNums_length]
    unfold xorS
    have h1 : ∀ l : List Nat, (l.filter fun y => decide (y < a)).length + (l.filter fun y => decide (b ≤ y)).length ≤ l.length := fun l => by
      induction l with
      | nil => simp
      | cons x l ih =>
        simp only [List.filter_cons, List.length_cons]
        by_cases h2 : x < a
        · have h3 : ¬ b ≤ x := by omega
          simp only [decide_eq_true h2, decide_eq_false h3, if_true, Bool.false_eq_true, if_false, List.length_cons]; omega
        · by_cases h3 : b ≤ x
          · simp only [decide_eq_false h2, decide_eq_true h3, if_true, Bool.false_eq_true, if_false, List.length_cons]; omega
          · simp only [decide_eq_false h2, decide_eq_false h3, Bool.false_eq_true, if_false]; omega
    have h4 := h1 (rgNums s)
    have h5 := List.length_filter_le (fun y => decide (y ∉ rgNums s)) (List.range' a (b - a))
    rw [List.length_range'] at h5
    simp only [List.length_append]
    omega
theorem flip_back {P Q R : Prop} (h : Q ↔ (P ∧ ¬ R) ∨ (¬ P ∧ R)) : P ↔ (Q ∧ ¬ R) ∨ (¬ Q ∧ R) := by
  by_cases hp : P <;> by_cases hr : R <;> simp_all
end Go.Roar
namespace Go.Proofs
open Go.RowKit Go.Roar

set_option maxRecDepth 100000 in
set_option maxHeartbeats 4000000 in
theorem lawFt_any (u : Value) (rs : List (Nat × Nat)) (a b y : Nat) (w : World) (hu : SG w u rs) (hb : ∀ r ∈ rs, r.1 < 4294967296 ∧ r.2 < 4294967296) (ha9 : a < 18446744073709551616) (hb9 : b < 18446744073709551616) (hy : y < 256) (hT : Tab w) (hTs : 0 < w.heap.size) :
    Calls Tryz.prog 4 #[u, .int .u64 (a : Int), .int .u64 (b : Int), .int .u8 (y : Int)] w fun e w' => e = .returned (.bool true) ∧ Mild w w' := by
  have hSet := fun (h : rs.length ≤ 2147483647) => set_any made_any u rs w hu hb h
  have Hor := Lib.hid (fun (e : Ending) (w' : World) (k : Mild w w') => set_orF (e := e) hu hb hT hTs k)
  obtain ⟨B, d, rfl, _⟩ := hu
  have HS := Lib.hid hSet
  clear hSet hT hb
  generalize hln : rs.length = nr at *
  have Hln := Lib.hid hln
  clear hln
  by_cases h1 : nr ≤ 2147483647
  · have Hset := Lib.hid (HS.out h1)
    have i1 : ¬ ((2147483647 : Int) < (nr : Int)) := by omega
    have r1 : ((y : Int)).tmod 2 = ((y % 2 : Nat) : Int) := by rw [Int.tmod_eq_emod_of_nonneg (by omega)]; omega
    have r2 : IntKind.i64.wrap ((y % 2 : Nat) : Int) = ((y % 2 : Nat) : Int) := IntWalk.i64_in _ (by omega)
    have hm2 : y % 2 < 2 := Nat.mod_lt _ (by decide)
    have SPN := Lib.hid (fun (W : World) => span_any a b W ha9 hb9)
    generalize y % 2 = m at *
    clear HS
    go_enter Tryz.func4, Tryz.ntmps4
    go_upto_region 5 with (first
      | (go_at_call 6; (with_reducible refine Hset.out.mono ?_); rintro ed w1 ⟨k1, hor⟩; obtain ⟨v1, ok, s, rfl, hok⟩ := Hor.out _ _ k1 hor; have K1 := Lib.hid k1; have Hok := Lib.hid hok; clear k1 hor hok)
      | (go_at_call 7; (with_reducible refine (SPN.out _).mono ?_); rintro ed w2 ⟨vs, fine, rfl, k2, hfine⟩; have K2 := Lib.hid k2; have HF := Lib.hid hfine; clear k2 hfine)
      | fail)
    cases ok
    · go_wp2_with fail
      go_ret
      exact ⟨rfl, K1.out.trans K2.out⟩
    · cases fine
      · go_wp2_with fail
        go_ret
        exact ⟨rfl, K1.out.trans K2.out⟩
      · obtain ⟨rv, hsp, hl⟩ := Hok.out rfl
        obtain ⟨hab, hb2, hd, -⟩ := HF.out rfl
        have hsp2 := (hsp.mild K2.out).toB
        obtain ⟨s1, f1, f2, f3, f4⟩ := flip_set (a := a) (b := b) hsp.ok hab hb2
        have hsb : ∀ r ∈ s, r.1 < 4294967296 ∧ r.2 < 4294967296 := fun r hr => by have := hsp.ok.1 r hr; omega
        have hcs := hsp.cs
        have F1 := Lib.hid (implFlip_any _ rs s s1 a b m w2 hsp2 hab hb2 (by omega) hm2 f1 f2 (by omega))
        have F2 := Lib.hid (fun (v : Value) (W : World) (k : Mild w2 W) (hO : Own W 2 43 v s1.length (rgCells s1)) => implFlip_any v s1 s1 s a b m W (SpansB.told hO f1 (by omega) (by omega) (hsp2.mild k).tab (hsp2.mild k).tabs) hab hb2 (by omega) hm2 hsp.ok (fun z => flip_back (f2 z)) (by omega))
        have F3 := Lib.hid (fun (W : World) (k : Mild w2 W) => show Calls Tryz.prog 13 #[.slice none 0 0, .int .u64 1, .int .u64 2, .int .i64 0] W fun e w' => ∃ v, e = .returned v ∧ Own w' 2 43 v 1 (rgCells [(1, 1)]) ∧ Mild W w' from
          implFlip_any (.slice none 0 0) [] [] [(1, 1)] 1 2 0 W (SpansB.empty W (hsp2.mild k).tab (hsp2.mild k).tabs) (by decide) (by decide) (by decide) (by decide) ⟨by intro r hr; simp at hr; subst hr; exact ⟨by decide, by decide⟩, by simp⟩ (fun z => by
            rw [rgNums_mem (by intro r hr; simp at hr; subst hr; decide), rgNums_mem (by simp)]
            simp
            omega) (by decide))
        have IS := Lib.hid (fun (l : Value) (W : World) (h1 : SV W l s) (k : Mild w1 W) => is_any l v1 s W h1 (rv.mild k) hsb (by omega))
        clear rv hsp Hok HF hsp2 hsb f2 f1 hcs
        go_wp2_with (first
          | (go_at_call 13; (with_reducible refine F1.out.mono ?_); rintro ed w3 ⟨v3, rfl, t1, t2⟩; have T3 := Lib.hid t1; have K3 := Lib.hid t2; clear t1 t2)
          | (go_at_call 13; (with_reducible refine (F2.out _ _ K3.out T3.out).mono ?_); rintro ed w4 ⟨v4, rfl, t1, t2⟩; have T4 := Lib.hid (SV.own t1); have K4 := Lib.hid (K3.out.trans t2); clear t1 t2)
          | (go_at_call 8; (with_reducible refine (IS.out _ _ T4.out (K2.out.trans K4.out)).mono ?_); rintro ed w5 ⟨rfl, k5⟩; have K5 := Lib.hid (K4.out.trans k5); clear k5)
          | (go_at_call 13; (with_reducible refine (F3.out _ K5.out).mono ?_); rintro ed w6 ⟨v6, rfl, t1, t2⟩; have K6 := Lib.hid (K5.out.trans t2); obtain ⟨g6, c6, rfl, _, _⟩ := Own.shape t1 (by decide); clear t1 t2)
          | fail)
        go_ret
        exact ⟨rfl, K1.out.trans (K2.out.trans K6.out)⟩
  · have i1 : (2147483647 : Int) < (nr : Int) := by omega
    go_enter Tryz.func4, Tryz.ntmps4
    go_wp2_with fail
    go_ret
    exact ⟨rfl, Kept.refl _ _⟩
end Go.Proofs

namespace Go.Proofs.YtjjijipfhnoomaaGreatDoor.fnFlipTwice
open Go.ChangeShapes Go.WideShapes Go.ChangeAt Go.RowKit Go.Roar Go.Proofs
set_option linter.unusedVariables false

theorem own : ownKnob Tryz.prog.godebug = none := by kernel_rfl
theorem laidOut : laidOutB Tryz.prog = true := by kernel_rfl
theorem gTab : Tryz.prog.globalNamed "math/bits.deBruijn64tab" = some 0 := by kernel_rfl
theorem tTab : (Tryz.prog.globals[0]?).map (·.type) = some 135 := by kernel_rfl
abbrev tabList : List (String × DataW Unit) := [("math/bits.deBruijn64tab", Rows.laid_math_bits_deBruijn64tab)]
theorem datum : (Rows.laid_math_bits_deBruijn64tab : DataW Unit) = .agg (Lib.deBruijn64tab.map fun (n : Nat) => .lit (.int .u8 (n : Int))) := by kernel_rfl
theorem cellsU8 : Tryz.prog.cellsOf 5 = 1 := by kernel_rfl

/-- The start's own heap meets the condition. -/
theorem door_met (os : Os) (args : Array Value) : laidMetH Tryz.prog tabList ((World.doorLaid Tryz.prog 14 os).forCall (fun _ _ => 0) ⟨#[], args, []⟩).memory :=
  laidMetH_of_parts3 (fuel := 8) (laidMet_of_run' 8 (by kernel_rfl) (by kernel_rfl)) (by kernel_rfl) (by kernel_rfl)

/-- What the condition gives the walk: the table's cells. -/
theorem of_laid {W : World} (h : laidMetH Tryz.prog tabList W) : Tab W ∧ 0 < W.heap.size := by
  rw [MakeChecks.laidMetH_plain _ _ _ (by kernel_rfl)] at h
  obtain ⟨ps, ⟨g0, t0, cs0, f0, p0, q0, hg0, ht0, hv0, hd0, _, _⟩, _, _⟩ := h
  obtain rfl := Option.some.inj (gTab.symm.trans hg0)
  obtain rfl := Option.some.inj (tTab.symm.trans ht0)
  obtain ⟨xs, m1, rfl, hx1, hlen, hn, hel⟩ := DataW.trod_array Tryz.underlying135 hd0
  simp only [Prod.mk.injEq] at hx1
  have hdat := datum.symm.trans hx1.1
  simp only [DataW.agg.injEq] at hdat
  have hT : Tab W := by
    intro j hj
    have hj64 : j < 64 := hj
    have h1 := hel j hj64
    rw [cellsU8, Nat.mul_one] at h1
    have hxj : xs[j]? = some (xs[j]'(by omega)) := List.getElem?_eq_getElem _
    rw [hxj] at h1
    obtain ⟨k, e1, e2, _⟩ := DataW.trod_int Tryz.underlying5 h1
    have hk : (Lib.deBruijn64tab.map fun (n : Nat) => (DataW.lit (.int .u8 (n : Int)) : DataW Unit))[j]? = (xs.map (·.1))[j]? := by rw [hdat]
    rw [List.getElem?_map, List.getElem?_map, hxj, List.getElem?_eq_getElem hj] at hk
    simp only [Option.map_some, Option.some.injEq] at hk
    rw [e2] at hk
    simp only [DataW.lit.injEq, Lit.int.injEq, true_and] at hk
    have h2 := World.var?_cell hg0 hv0 j
    rw [h2, ← Array.getElem?_toList]
    have h3 : (cs0.toList.drop j)[0]? = some (.int .u8 k) := by
      have := congrArg (fun l => l[0]?) e1
      simpa [List.getElem?_take] using this
    rw [List.getElem?_drop, Nat.add_zero] at h3
    rw [h3, ← hk, List.getD_eq_getElem?_getD, List.getElem?_eq_getElem hj]; rfl
  exact ⟨hT, World.block_lt_of_cell? W ⟨0, 0, none⟩ (hT 0 (by decide))⟩
end Go.Proofs.YtjjijipfhnoomaaGreatDoor.fnFlipTwice
