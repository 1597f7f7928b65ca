/-
  laws.FnOptimize: the walk: it returns true.
-/
import Derived.Test.YtdbadhoapnafbaaGreatDoorJMd
import Derived.Test.YtdbadhoapnafbaaGreatDoorKMb
import Derived.Test.YtdbadhoapnafbaaGreatDoorKSet
namespace Go.Roar
open Go.RowKit Go.Proofs
theorem set_or2 {e : Ending} {w w' : World} {u : Value} {rs : List (Nat × Nat)} (hu : SG w u rs) (hb : ∀ r ∈ rs, r.1 < 4294967296 ∧ r.2 < 4294967296) (hT : Tab w) (hTs : 0 < w.heap.size) (k : Mild w w')
    (h : (∃ v, e = .returned (.tuple #[v, .bool false])) ∨ ∃ v s, e = .returned (.tuple #[v, .bool true]) ∧ RV w' v s ∧ RgOK 4294967296 s ∧ rgCard s ≤ 200000 ∧ s.length ≤ 400 ∧ rs.length ≤ 400 ∧ rgCard (keep rs) ≤ 200000 ∧ ∀ x, x ∈ rgNums s ↔ inR rs x) :
    ∃ v ok s, e = .returned (.tuple #[v, .bool ok]) ∧ (ok = true → RV w' v s ∧ Spans w' u rs s ∧ s.length ≤ 400) := by
  rcases h with ⟨v, rfl⟩ | ⟨v, s, rfl, h1, h2, h3, h4, h5, h6, h7⟩
  · exact ⟨v, false, [], rfl, fun h => by cases h⟩
  · exact ⟨v, true, s, rfl, fun _ => ⟨h1, ⟨Go.Roar.SG.mild hu k, hb, h5, h6, h2, h7, h3, fun i hi => k.cell2 id (hT i hi), Nat.lt_of_lt_of_le hTs k.size⟩, h4⟩⟩
theorem any_take {l : List Nat} {k x : Nat} (h : l[k]? = some x) : (l.take (k + 1)).any (· == 2) = ((l.take k).any (· == 2) || x == 2) := by
  rw [List.take_add_one, h, List.any_append]
  simp
end Go.Roar
namespace Go.Proofs
open Go.RowKit Go.Roar

set_option maxRecDepth 100000 in
set_option maxHeartbeats 4000000 in
theorem lawO_any (u : Value) (rs : List (Nat × Nat)) (y : Nat) (w : World) (hu : SG w u rs) (hb : ∀ r ∈ rs, r.1 < 4294967296 ∧ r.2 < 4294967296) (hy : y < 256) (hT : Tab w) (hTs : 0 < w.heap.size) :
    Calls Tryz.prog 3 #[u, .int .u8 (y : Int)] w fun e w' => e = .returned (.bool true) ∧ Mild w w' := by
  have hSet := fun (h : rs.length ≤ 2147483647) => set_any made_any u rs w hu hb h
  have Hor := Lib.hid (fun (e : Ending) (w' : World) (k : Mild w w') => set_or2 (e := e) hu hb hT hTs k)
  obtain ⟨B, d, rfl, _⟩ := hu
  have HS := Lib.hid hSet
  clear hSet hT hb
  generalize hln : rs.length = nr at *
  have Hln := Lib.hid hln
  clear hln
  by_cases h1 : nr ≤ 2147483647
  · have Hset := Lib.hid (HS.out h1)
    have i1 : ¬ ((2147483647 : Int) < (nr : Int)) := by omega
    have r1 : ((y : Int)).tmod 2 = ((y % 2 : Nat) : Int) := by rw [Int.tmod_eq_emod_of_nonneg (by omega)]; omega
    have r2 : IntKind.i64.wrap ((y % 2 : Nat) : Int) = ((y % 2 : Nat) : Int) := IntWalk.i64_in _ (by omega)
    have hm2 : y % 2 < 2 := Nat.mod_lt _ (by decide)
    generalize y % 2 = m at *
    clear HS
    go_enter Tryz.func3, Tryz.ntmps3
    go_upto_if 23 with (first
      | (go_at_call 4; (with_reducible refine Hset.out.mono ?_); rintro ed w1 ⟨k1, hor⟩; obtain ⟨v1, ok, s, rfl, hok⟩ := Hor.out _ _ k1 hor; have K1 := Lib.hid k1; have Hok := Lib.hid hok; clear k1 hor hok))
    cases ok
    · go_wp2_with fail
      go_ret
      exact ⟨rfl, K1.out⟩
    · obtain ⟨rv, hsp, hl⟩ := Hok.out rfl
      have HRV := Lib.hid rv
      have HSP := Lib.hid hsp
      have OP := Lib.hid (implOpt_any _ rs s m w1 hsp hm2)
      have KN := Lib.hid (fun (W : World) (k : Mild w1 W) => implKinds_any _ rs s W (hsp.mild k))
      clear rv hsp Hok
      go_wp2_with (first
        | (go_at_call 5; (with_reducible refine OP.out.mono ?_); rintro ed w2 ⟨v2, ps, rfl, s1, s2, s3, s4⟩; have T1 := Lib.hid s1; have K2 := Lib.hid s2; have O1 := Lib.hid s3; have N1 := Lib.hid s4; clear s1 s2 s3 s4)
        | (go_at_call 6; (with_reducible refine (KN.out _ K2.out).mono ?_); rintro ed w3 ⟨v3, ps3, rfl, s1, s2, s3, s4⟩; obtain rfl := OKP_inj s3 O1.out (s4.trans N1.out.symm); have T3 := Lib.hid s1; have K3 := Lib.hid s2; clear s1 s2 s3 s4; obtain ⟨A3, c3, rfl⟩ := T3.out.form)
        | fail)
      obtain ⟨bb, hbb⟩ : ∃ bb, bb = (kindsOf ps3).any (· == 2) := ⟨_, rfl⟩
      rw [← hbb]
      have hkl : (kindsOf ps3).length = ps3.length := by simp [kindsOf]
      have hpl := O1.out.length
      generalize hkd : kindsOf ps3 = kd at *
      clear hkd
      generalize hn : ps3.length = n at *
      have Hkl := Lib.hid hkl
      have Hbb := Lib.hid hbb
      have K13 := Lib.hid (K1.out.trans (K2.out.trans K3.out))
      clear hkl hbb hn
      go_loopw [37, 11] (fun i f wr => ∃ (k : Nat) (fb : Bool), i = .int .i64 (k : Int) ∧ f = .bool fb ∧ k ≤ n ∧ Hid (fb = (kd.take k).any (· == 2)) ∧ w3 = wr) (fun i _ _ => n - (intOf i).toNat)
      case atStart => exact ⟨0, false, rfl, rfl, Nat.zero_le _, Lib.hid rfl, rfl⟩
      case round =>
        obtain ⟨k, fb, rfl, rfl, hk, Hfb, rfl⟩ := hrel
        by_cases hlt : k < n
        · obtain ⟨x, hx⟩ : ∃ x, kd[k]? = some x := ⟨_, List.getElem?_eq_getElem (by rw [Hkl.out]; exact hlt)⟩
          obtain ⟨g, kk, rr, hv, _, _, hbk⟩ := T3.out.open (by omega)
          have hA : A3 = some ⟨g, 0, none⟩ := by simp at hv; exact hv.1
          subst hA
          have c1 := (Own.cellAt T3.out (intv_at hx)).1
          have Hst := Lib.hid (any_take hx)
          have i0 : (k : Int) < (n : Int) := by omega
          clear hv hbk hx
          cases fb
          · by_cases h2 : x = 2
            · subst h2
              go_wp2
              go_roundw
              case rel => exact ⟨k + 1, true, by go_num, by first | rfl | simp, by omega, Lib.hid (by rw [Hst.out]; simp), by first | rfl | trivial⟩
              case measure => simp only [intOf]; omega
            · have i3 : ((x : Int) == 2) = false := by rw [beq_eq_false_iff_ne]; omega
              have i4 : ¬ (x : Int) = 2 := by omega
              go_wp2
              go_roundw
              case rel => exact ⟨k + 1, false, by go_num, rfl, by omega, Lib.hid (by rw [Hst.out, ← Hfb.out]; simp [h2]), by first | rfl | trivial⟩
              case measure => simp only [intOf]; omega
          · go_wp2
            go_roundw
            case rel => exact ⟨k + 1, true, by go_num, rfl, by omega, Lib.hid (by rw [Hst.out, ← Hfb.out]; rfl), by first | rfl | trivial⟩
            case measure => simp only [intOf]; omega
        · obtain rfl : k = n := by omega
          have hfb : fb = bb := by rw [Hfb.out, Hbb.out, List.take_of_length_le (by rw [Hkl.out]; omega)]
          subst hfb
          have IS := Lib.hid (is_any v2 v1 s w3 (SV.kept (SV.own T1.out) K3.out (fun _ _ => id)) (HRV.out.mild (K2.out.trans K3.out)) (fun r hr => by have := HSP.out.ok.1 r hr; omega) (by omega))
          have HSP3 := Lib.hid (HSP.out.mild (K2.out.trans K3.out))
          cases fb
          all_goals
            go_wp2_with (first
              | (go_at_call 7; (with_reducible refine IS.out.mono ?_); rintro ed w4 ⟨rfl, k4⟩; have K4 := Lib.hid k4; clear k4)
              | (go_at_call 8; (with_reducible refine (some_any _ (HSP3.out.mild K4.out).tab (HSP3.out.mild K4.out).tabs).mono ?_); rintro ed w5 ⟨rfl, k5⟩; have K5 := Lib.hid k5; clear k5)
              | fail)
            go_ret
            exact ⟨rfl, K13.out.trans (K4.out.trans K5.out)⟩
  · have i1 : (2147483647 : Int) < (nr : Int) := by omega
    go_enter Tryz.func3, Tryz.ntmps3
    go_wp2_with fail
    go_ret
    exact ⟨rfl, Kept.refl _ _⟩
end Go.Proofs
