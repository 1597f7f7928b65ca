/-
  laws.FnSmaller: the walk: it returns true.
-/
import Derived.Test.YtpnnbomjbfjgpaaGreatDoorJMd
import Derived.Test.YtpnnbomjbfjgpaaGreatDoorKMb
import Derived.Test.YtpnnbomjbfjgpaaGreatDoorKSet
import Derived.Test.YtpnnbomjbfjgpaaGreatDoorKPt
import Derived.Test.YtpnnbomjbfjgpaaGreatDoorKSa
import Derived.Test.YtpnnbomjbfjgpaaGreatDoorKFsP
namespace Go.Roar
open Go.RowKit Go.Proofs
theorem set_or3 {e : Ending} {w w' : World} {u : Value} {rs : List (Nat × Nat)} (hu : SG w u rs) (hb : ∀ r ∈ rs, r.1 < 4294967296 ∧ r.2 < 4294967296) (hT : Tab w) (hTs : 0 < w.heap.size) (k : Mild w w')
    (h : (∃ v, e = .returned (.tuple #[v, .bool false])) ∨ ∃ v s, e = .returned (.tuple #[v, .bool true]) ∧ RV w' v s ∧ RgOK 4294967296 s ∧ rgCard s ≤ 200000 ∧ s.length ≤ 400 ∧ rs.length ≤ 400 ∧ rgCard (keep rs) ≤ 200000 ∧ ∀ x, x ∈ rgNums s ↔ inR rs x) :
    ∃ v ok s, e = .returned (.tuple #[v, .bool ok]) ∧ (ok = true → RV w' v s ∧ Spans w' u rs s ∧ s.length ≤ 400) := by
  rcases h with ⟨v, rfl⟩ | ⟨v, s, rfl, h1, h2, h3, h4, h5, h6, h7⟩
  · exact ⟨v, false, [], rfl, fun h => by cases h⟩
  · exact ⟨v, true, s, rfl, fun _ => ⟨h1, ⟨Go.Roar.SG.mild hu k, hb, h5, h6, h2, h7, h3, fun i hi => k.cell2 id (hT i hi), Nat.lt_of_lt_of_le hTs k.size⟩, h4⟩⟩
theorem kinds_at {qs : List (Nat × List (Nat × Nat))} {i : Nat} {q : Nat × List (Nat × Nat)} (hq : qs[i]? = some q) : (kindsOf (qs.map fun q => (q.1, rgNums q.2)))[i]? = some (kindOf (rgNums q.2)) := by simp [kindsOf, hq]
end Go.Roar
namespace Go.Proofs
open Go.RowKit Go.Roar

set_option maxRecDepth 100000 in
set_option maxHeartbeats 4000000 in
theorem lawS_any (u : Value) (rs : List (Nat × Nat)) (w : World) (hu : SG w u rs) (hb : ∀ r ∈ rs, r.1 < 4294967296 ∧ r.2 < 4294967296) (hT : Tab w) (hTs : 0 < w.heap.size) :
    Calls Tryz.prog 3 #[u] w fun e w' => e = .returned (.bool true) ∧ Mild w w' := by
  have hSet := fun (h : rs.length ≤ 2147483647) => set_any made_any u rs w hu hb h
  have Hor := Lib.hid (fun (e : Ending) (w' : World) (k : Mild w w') => set_or3 (e := e) hu hb hT hTs k)
  obtain ⟨B, d, rfl, _⟩ := hu
  have HS := Lib.hid hSet
  clear hSet hT hb
  generalize hln : rs.length = nr at *
  have Hln := Lib.hid hln
  clear hln
  by_cases h1 : nr ≤ 2147483647
  · have Hset := Lib.hid (HS.out h1)
    have i1 : ¬ ((2147483647 : Int) < (nr : Int)) := by omega
    clear HS
    go_enter Tryz.func3, Tryz.ntmps3
    go_upto_if 21 with (first
      | (go_at_call 4; (with_reducible refine Hset.out.mono ?_); rintro ed w1 ⟨k1, hor⟩; obtain ⟨v1, ok, s, rfl, hok⟩ := Hor.out _ _ k1 hor; have K1 := Lib.hid k1; have Hok := Lib.hid hok; clear k1 hor hok))
    cases ok
    · go_wp2_with fail
      go_ret
      exact ⟨rfl, K1.out⟩
    · obtain ⟨rv, hsp, hl⟩ := Hok.out rfl
      have HRV := Lib.hid rv
      have HSP := Lib.hid hsp
      have KN := Lib.hid (implKinds_few _ rs s w1 hsp)
      have PA := Lib.hid (fun (W : World) (k : Mild w1 W) => parts_any v1 s W (rv.mild k) hsp.ok (by omega))
      have hpo := (partsOf_ok hsp.ok).1
      have HPK := Lib.hid (parts_OKP hsp.ok)
      generalize partsOf s = qs at *
      have HPO := Lib.hid hpo
      clear rv hsp Hok hpo
      go_wp2_with (first
        | (go_at_call 5; (with_reducible refine KN.out.mono ?_); rintro ed w2 ⟨v2, ps, rfl, s1, s2, s3, s4, s5⟩; obtain rfl := OKP_inj s3 HPK.out.1 (s4.trans HPK.out.2.symm); rw [List.length_map] at s1; have T2 := Lib.hid s1; have K2 := Lib.hid s2; have F2 := Lib.hid s5; clear s1 s2 s3 s4 s5; obtain ⟨A2, c2, rfl⟩ := T2.out.form)
        | (go_at_call 6; (with_reducible refine (PA.out _ K2.out).mono ?_); rintro ed w3 ⟨v3, rfl, s1, s2⟩; have K3 := Lib.hid s2; obtain ⟨A3, c3, rfl, hpv⟩ := s1; have P3 := Lib.hid hpv; clear hpv s2)
        | fail)
      have hql := show qs.length < 65537 from by have := HPK.out.1.length; rw [List.length_map] at this; omega
      have HKD := Lib.hid (fun (i : Nat) (q : Nat × List (Nat × Nat)) (h : qs[i]? = some q) => kinds_at h)
      have HSM := Lib.hid (fun (i : Nat) (q : Nat × List (Nat × Nat)) (h : qs[i]? = some q) => small_at HPO.out F2.out h)
      generalize kindsOf (qs.map fun q => (q.1, rgNums q.2)) = kd at *
      generalize hn : qs.length = n at *
      have Hn := Lib.hid hn
      have K13 := Lib.hid (K1.out.trans (K2.out.trans K3.out))
      clear hn
      go_loopw [33] (fun i wr => ∃ (k : Nat), i = .int .i64 (k : Int) ∧ k ≤ n ∧ Hid (Mild w3 wr)) (fun i _ => n - (intOf i).toNat)
      case atStart => exact ⟨0, rfl, Nat.zero_le _, Lib.hid (Kept.refl _ _)⟩
      case round =>
        obtain ⟨k, rfl, hk, Hm⟩ := hrel
        by_cases hlt : k < n
        · obtain ⟨q, hx⟩ : ∃ q, qs[k]? = some q := ⟨_, List.getElem?_eq_getElem (by rw [Hn.out]; exact hlt)⟩
          obtain ⟨g2, k2, rr2, hv2, _, _, hb2⟩ := T2.out.open (by omega)
          have hA : A2 = some ⟨g2, 0, none⟩ := by simp at hv2; exact hv2.1
          subst hA
          obtain ⟨g, u, rfl, a1, a2, a3, _, _⟩ := P3.out k q hx
          obtain ⟨ul, UA, uc, rfl, hul⟩ : ∃ ul A c, u = .slice A ul c ∧ ul = q.2.length := by obtain ⟨A, c, h, _⟩ := a3; exact ⟨_, A, c, h, rfl⟩
          obtain ⟨b1, b2, b3, b4, b5⟩ := HSM.out k q hx
          have c1 := Hm.out.cell2 id (K3.out.cell2 id (Own.cellAt T2.out (intv_at (HKD.out k q hx))).1)
          have ca := Hm.out.cell2 id a1
          have cb := Hm.out.cell2 id a2
          have LC := Lib.hid (fun (W : World) (h : RV W (.slice UA ul uc) q.2) => count_any _ q.2 W h b1 (by omega))
          have HR := Lib.hid (a3.mild Hm.out)
          have i0 : (k : Int) < (n : Int) := by omega
          generalize kindOf (rgNums q.2) = x at *
          generalize rgCard q.2 = cd at *
          rw [← hul] at b2 b4 b5
          clear hv2 hb2 hx a1 a2 a3 b1 hul
          by_cases hx2 : x = 2
          · subst hx2
            have b6 := b4 rfl
            clear b4 b5
            by_cases hc : cd ≤ 4096
            · rw [if_pos hc] at b6
              go_wp2_with (first
                | (go_at_call 7; (with_reducible refine (LC.out _ HR.out).mono ?_); rintro ed w4 ⟨rfl, k4⟩; have K4 := Lib.hid (Hm.out.trans k4); clear k4)
                | fail)
              go_roundw
              case rel => exact ⟨k + 1, by go_num, by omega, K4⟩
              case measure => simp only [intOf]; omega
            · rw [if_neg hc] at b6
              go_wp2_with (first
                | (go_at_call 7; (with_reducible refine (LC.out _ HR.out).mono ?_); rintro ed w4 ⟨rfl, k4⟩; have K4 := Lib.hid (Hm.out.trans k4); clear k4)
                | fail)
              go_roundw
              case rel => exact ⟨k + 1, by go_num, by omega, K4⟩
              case measure => simp only [intOf]; omega
          · have b6 := b5 hx2
            clear b4 b5
            have i3 : ((x : Int) == 2) = false := by rw [beq_eq_false_iff_ne]; omega
            have i4 : ¬ (x : Int) = 2 := by omega
            by_cases hc : cd ≤ 4096
            · rw [if_pos hc] at b6
              go_wp2_with (first
                | (go_at_call 7; (with_reducible refine (LC.out _ HR.out).mono ?_); rintro ed w4 ⟨rfl, k4⟩; have K4 := Lib.hid (Hm.out.trans k4); clear k4)
                | fail)
              go_roundw
              case rel => exact ⟨k + 1, by go_num, by omega, K4⟩
              case measure => simp only [intOf]; omega
            · rw [if_neg hc] at b6
              exfalso
              omega
        · obtain rfl : k = n := by omega
          go_wp2_with (first
            | (go_at_call 8; (with_reducible refine (some_any _ (HSP.out.mild (K2.out.trans (K3.out.trans Hm.out))).tab (HSP.out.mild (K2.out.trans (K3.out.trans Hm.out))).tabs).mono ?_); rintro ed w5 ⟨rfl, k5⟩; have K5 := Lib.hid k5; clear k5)
            | fail)
          go_ret
          exact ⟨rfl, K13.out.trans (Hm.out.trans K5.out)⟩
  · have i1 : (2147483647 : Int) < (nr : Int) := by omega
    go_enter Tryz.func3, Tryz.ntmps3
    go_wp2_with fail
    go_ret
    exact ⟨rfl, Kept.refl _ _⟩
end Go.Proofs
