/-
  laws.FnBytes: the walk: it returns true.
-/
import Derived.Test.YtanmgknadeoffaaGreatDoorJSsz
import Derived.Test.YtanmgknadeoffaaGreatDoorKBy
import Derived.Test.YtanmgknadeoffaaGreatDoorJSa
import Derived.Test.YtanmgknadeoffaaGreatDoorJCl
import Derived.Test.YtanmgknadeoffaaGreatDoorJIs
import Derived.Laws.BytesArg
namespace Go.Roar
open Go.RowKit Go.Proofs
theorem set_or8 {e : Ending} {w w' : World} {u : Value} {rs : List (Nat × Nat)} (hu : SG w u rs) (hb : ∀ r ∈ rs, r.1 < 4294967296 ∧ r.2 < 4294967296) (hT : Tab w) (hTs : 1 < w.heap.size) (k : Mild w w')
    (h : (∃ v, e = .returned (.tuple #[v, .bool false])) ∨ ∃ v s, e = .returned (.tuple #[v, .bool true]) ∧ RV w' v s ∧ RgOK 4294967296 s ∧ rgCard s ≤ 200000 ∧ s.length ≤ 400 ∧ rs.length ≤ 400 ∧ rgCard (keep rs) ≤ 200000 ∧ ∀ x, x ∈ rgNums s ↔ inR rs x) :
    ∃ v ok s, e = .returned (.tuple #[v, .bool ok]) ∧ (ok = true → RV w' v s ∧ Spans w' u rs s ∧ s.length ≤ 400) := by
  rcases h with ⟨v, rfl⟩ | ⟨v, s, rfl, h1, h2, h3, h4, h5, h6, h7⟩
  · exact ⟨v, false, [], rfl, fun h => by cases h⟩
  · exact ⟨v, true, s, rfl, fun _ => ⟨h1, ⟨Go.Roar.SG.mild hu k, hb, h5, h6, h2, h7, h3, fun i hi => k.cell2 id (hT i hi), Nat.lt_of_lt_of_le hTs k.size⟩, h4⟩⟩
/-- A set's bytes are those of the format over its ranges' parts, of the kinds that it tells. -/
theorem fb_same {rs s : List (Nat × Nat)} {m : Nat} {q1 q2 : List Kon} (hm : m < 2) (hs : RgOK 4294967296 s) (o1 : OKP (psOf q1)) (n1 : allN (psOf q1) = rgNums s) (k1 : KindsOK (qsOf q1) (kdOf q1)) (p1 : KindsP rs m q1)
    (o2 : OKP (psOf q2)) (n2 : allN (psOf q2) = rgNums s) (k2 : KindsOK (qsOf q2) (kdOf q2)) (p2 : KindsP rs m q2) :
    bytesOf q1 = wholeOf (partsOf s) (kdOf q2) (offsOf (partsOf s) (kdOf q2)) ∧ KindsOK (partsOf s) (kdOf q2) ∧ q2.length = (partsOf s).length := by
  have hp : psOf q1 = psOf q2 := OKP_inj o1 o2 (n1.trans n2.symm)
  have hk := kinds_same hm hp k1 k2 p1 p2
  have e1 := qs_same o1 hs n1
  have e2 := qs_same o2 hs n2
  refine ⟨by unfold bytesOf; rw [e1, hk], by rw [← e2]; exact k2, by rw [← e2, qsOf_length]⟩
theorem conv_rb {w : World} {D C n : Nat} {N : List Nat} (h : RB w (some ⟨D, 0, none⟩) n C N) (hn : 0 < n) : (convert 27 9 (.slice (some ⟨D, 0, none⟩) n C)).run Tryz.prog w = .ok (.string (strOfNums (N.map fun x : Nat => (x : Int)))) w := by
  obtain ⟨h1, _, _, h4⟩ := h
  obtain ⟨g, o, e, hc⟩ := h4 hn
  cases e
  refine run_convert_bytes_arg w 27 5 undU8s (by kernel_rfl) D 0 n C (N.map fun x : Nat => (x : Int)) (by rw [List.length_map, h1]) (fun i hi => ?_) 9 (by kernel_rfl)
  have hx : N[i]? = some N[i] := List.getElem?_eq_getElem (by omega)
  rw [hc i _ hx, List.getD_eq_getElem?_getD, List.getElem?_map, hx]
  rfl
end Go.Roar
namespace Go.Proofs
open Go.RowKit Go.Roar

set_option maxRecDepth 100000 in
set_option maxHeartbeats 8000000 in
theorem lawFb_any (u : Value) (rs : List (Nat × Nat)) (y : Nat) (w : World) (hu : SG w u rs) (hb : ∀ r ∈ rs, r.1 < 4294967296 ∧ r.2 < 4294967296) (hy : y < 256) (hT : Tab w) (hTs : 1 < w.heap.size) :
    Calls Tryz.prog 3 #[u, .int .u8 (y : Int)] w fun e w' => e = .returned (.bool true) ∧ Mild w w' := by
  have hSet := fun (h : rs.length ≤ 2147483647) => set_any made_any u rs w hu hb h
  have Hor := Lib.hid (fun (e : Ending) (w' : World) (k : Mild w w') => set_or8 (e := e) hu hb hT hTs k)
  obtain ⟨B, d, rfl, _⟩ := hu
  have HS := Lib.hid hSet
  clear hSet hT hb
  generalize hln : rs.length = nr at *
  have Hln := Lib.hid hln
  clear hln
  by_cases h1 : nr ≤ 2147483647
  · have Hset := Lib.hid (HS.out h1)
    have i1 : ¬ ((2147483647 : Int) < (nr : Int)) := by omega
    have r1 : ((y : Int)).tmod 2 = ((y % 2 : Nat) : Int) := by rw [Int.tmod_eq_emod_of_nonneg (by omega)]; omega
    have r2 : IntKind.i64.wrap ((y % 2 : Nat) : Int) = ((y % 2 : Nat) : Int) := IntWalk.i64_in _ (by omega)
    have hm2 : y % 2 < 2 := Nat.mod_lt _ (by decide)
    generalize y % 2 = m at *
    clear HS
    go_enter Tryz.func3, Tryz.ntmps3
    go_upto_if 23 with (first
      | (go_at_call 6; (with_reducible refine Hset.out.mono ?_); rintro ed w1 ⟨k1, hor⟩; obtain ⟨v1, ok, s, rfl, hok⟩ := Hor.out _ _ k1 hor; have K1 := Lib.hid k1; have Hok := Lib.hid hok; clear k1 hor hok))
    cases ok
    · go_wp2_with fail
      go_ret
      exact ⟨rfl, K1.out⟩
    · obtain ⟨rv, hsp, hl⟩ := Hok.out rfl
      have HSP := Lib.hid hsp
      have BY := Lib.hid (implBytes_any _ rs s m w1 hsp hm2)
      have IK := Lib.hid (fun (W : World) (k : Mild w1 W) => implKindsW_any _ rs s m W (hsp.mild k) hm2)
      have PA := Lib.hid (fun (W : World) (k : Mild w1 W) => parts_any v1 s W (rv.mild k) hsp.ok (by omega))
      have BX := Lib.hid (fun (kv : Value) (kd : List Nat) (W : World) (k : Mild w1 W) (hk : KV W kv kd) (hkk : KindsOK (partsOf s) kd) => bytesX_any v1 s kv kd W (rv.mild k) hsp.ok (by omega) hsp.cs hk hkk)
      have FS := Lib.hid (fun (q1 q2 : List Kon) (o1 : OKP (psOf q1)) (n1 : allN (psOf q1) = rgNums s) (k1 : KindsOK (qsOf q1) (kdOf q1)) (p1 : KindsP rs m q1) (o2 : OKP (psOf q2)) (n2 : allN (psOf q2) = rgNums s) (k2 : KindsOK (qsOf q2) (kdOf q2)) (p2 : KindsP rs m q2) => fb_same hm2 hsp.ok o1 n1 k1 p1 o2 n2 k2 p2)
      have hpo := (partsOf_ok hsp.ok).1
      generalize partsOf s = qs at *
      have HPO := Lib.hid hpo
      clear rv hsp Hok hpo
      go_upto_if 42 with (first
        | (go_at_call 7; (with_reducible refine BY.out.mono ?_); rintro ed w2 ⟨q1, D, C, n, rfl, t1, t2, t3⟩; have T1 := Lib.hid t1; have T2 := Lib.hid t2; have K2 := Lib.hid t3; clear t1 t2 t3)
        | (go_at_call 8; (with_reducible refine (IK.out _ K2.out).mono ?_); rintro ed w3 ⟨v3, q2, rfl, s1, s2, s3, s4, s5, s6⟩; obtain ⟨e1, e2, e3⟩ := FS.out q1 q2 T1.out.ok T1.out.nums T1.out.kinds T2.out s3 s4 s5 s6; rw [e3] at s1; have HE := Lib.hid e1; have HKK := Lib.hid e2; have I3 := Lib.hid s1; have K3 := Lib.hid (K2.out.trans s2); have RB3 := Lib.hid (T1.out.rb.mild s2); clear s1 s2 s3 s4 s5 s6 e1 e2 e3; obtain ⟨A3, c3, rfl⟩ := I3.out.form)
        | (go_at_call 9; (with_reducible refine (PA.out _ K3.out).mono ?_); rintro ed w4 ⟨v4, rfl, s1, s2⟩; have K4 := Lib.hid (K3.out.trans s2); have I4 := Lib.hid (I3.out.kept s2 (fun _ _ => id)); have RB4 := Lib.hid (RB3.out.mild s2); obtain ⟨A4, c4, rfl, hpv⟩ := s1; have P4 := Lib.hid hpv; clear hpv s2)
        | fail)
      generalize kdOf q2 = kd at *
      generalize hn : qs.length = np at *
      have Hn := Lib.hid hn
      have HKL := Lib.hid (show kd.length = np by have := HKK.out.1; rw [this, hn])
      have hnp : np ≤ 65536 := by rw [← hn]; exact parts_len HPO.out
      clear hn
      go_wp2_with fail
      go_loopw [45] (fun i wr => ∃ (k : Nat), i = .int .i64 (k : Int) ∧ k ≤ np ∧ Hid (Mild w4 wr)) (fun i _ => np - (intOf i).toNat)
      case atStart => exact ⟨0, rfl, Nat.zero_le _, Lib.hid (Kept.refl _ _)⟩
      case round =>
        obtain ⟨k, rfl, hk, Hm⟩ := hrel
        by_cases hlt : k < np
        · obtain ⟨q, hx⟩ : ∃ q, qs[k]? = some q := ⟨_, List.getElem?_eq_getElem (by rw [Hn.out]; exact hlt)⟩
          obtain ⟨x, hkx⟩ : ∃ x, kd[k]? = some x := ⟨_, List.getElem?_eq_getElem (by rw [HKL.out]; exact hlt)⟩
          obtain ⟨g3, k3, rr3, hv3, _, _, _⟩ := I4.out.open (by omega)
          have hA : A3 = some ⟨g3, 0, none⟩ := by simp at hv3; exact hv3.1
          subst hA
          obtain ⟨g, u, rfl, a1, a2, a3, _, _⟩ := P4.out k q hx
          obtain ⟨ul, UA, uc, rfl⟩ : ∃ ul A c, u = .slice A ul c := by obtain ⟨A, c, h, _⟩ := a3; exact ⟨_, A, c, h⟩
          obtain ⟨b1, b2, b3⟩ := HPO.out.2 q (List.mem_of_getElem? hx)
          have hlen := rg_length q.2 0 b3 (fun _ _ => Nat.zero_le _) (by omega)
          have c1 := Hm.out.cell2 id (Own.cellAt I4.out (intv_at hkx)).1
          have cb := Hm.out.cell2 id a2
          have PL := Lib.hid (fun (W : World) (h : RV W (.slice UA ul uc) q.2) => plain_any _ q.2 W h (fun r hr => by have := b3.1 r hr; omega) (by omega))
          have HR := Lib.hid (a3.mild Hm.out)
          have hkk := HKK.out.2 k q x hx hkx
          have i0 : (k : Int) < (np : Int) := by omega
          clear hv3 hx hkx a1 a2 a3 b1 b2 b3 hlen
          by_cases hx2 : x = 2
          · subst hx2
            clear hkk
            go_wp2_with fail
            go_roundw
            case rel => exact ⟨k + 1, by go_num, by omega, Hm⟩
            case measure => simp only [intOf]; omega
          · have hkk := hkk.resolve_left hx2
            rw [← hkk] at PL
            have i3 : ((x : Int) == 2) = false := by rw [beq_eq_false_iff_ne]; omega
            have i4 : ¬ (x : Int) = 2 := by omega
            clear hkk
            go_wp2_with (first
              | (go_at_call 10; (with_reducible refine (PL.out _ HR.out).mono ?_); rintro ed w5 ⟨rfl, k5⟩; have K5 := Lib.hid (Hm.out.trans k5); clear k5)
              | fail)
            go_roundw
            case rel => exact ⟨k + 1, by go_num, by omega, K5⟩
            case measure => simp only [intOf]; omega
        · obtain rfl : np = k := by omega
          obtain ⟨NB, hNB⟩ : ∃ NB, NB = bytesOf q1 := ⟨_, rfl⟩
          have hNw : NB = wholeOf qs kd (offsOf qs kd) := hNB.trans HE.out
          have hlen : NB.length = n := by rw [hNB]; exact T1.out.len.symm
          have hpos : 0 < n := by rw [← hlen, hNB]; exact bytesOf_pos q1
          have hn9 : n ≤ 1000000000 := by have := T1.out.small; rw [← hNB] at this; omega
          have RBr := RB4.out.mild Hm.out.drew
          rw [← hNB] at RBr
          have HBY := Lib.hid RBr.2.2.1
          have HKr := Lib.hid (K4.out.trans Hm.out)
          have HRB := Lib.hid RBr
          have BC := BX.out (.slice A3 np c3) kd wr.drew HKr.out.drew (KV.own (by rw [HKL.out]; exact I4.out.kept Hm.out.drew (fun _ _ => id))) HKK.out
          have BC2 : Calls Tryz.prog 11 #[v1, .slice A3 np c3] wr.drew fun e w' => ∃ v, e = .returned v ∧ Own w' 1 5 v NB.length (u8s NB) ∧ Mild wr.drew w' := BC.mono (by rintro e w' ⟨v, offs, rfl, o1, _, _, _, k1, rfl⟩; rw [← hNw] at o1; exact ⟨v, rfl, o1, k1⟩)
          have HBC := Lib.hid BC2
          have SM := Lib.hid (fun (W : World) (k : Mild wr.drew W) => some_any W (HSP.out.mild (HKr.out.drew.trans k)).tab (HSP.out.mild (HKr.out.drew.trans k)).tabs)
          have CVA := Lib.hid (fun (W : World) (D C : Nat) (h : RB W (some ⟨D, 0, none⟩) n C NB) => conv_rb h hpos)
          obtain ⟨SB, hSB⟩ : ∃ SB, SB = strOfNums (NB.map fun x : Nat => (x : Int)) := ⟨_, rfl⟩
          rw [← hSB] at CVA
          clear hSB
          have cb0 := CVA.out _ _ _ RBr
          rw [hlen] at HBC
          have wz : IntKind.u64.wrap (n : Int) = (n : Int) := IntWalk.u64_in _ (by omega)
          clear BC BC2 RBr hNB hNw hlen
          clear T1 T2 HE HKK I3 I4 RB3 RB4 P4 HPO HKL FS PA IK BY BX Hor Hset Hn Hln Hm K2 K3 K4 hk hlt HBY hnp i1 r1 r2 hm2
          go_wp2_with fail
          go_region_with (first
            | (go_at_call 11; (with_reducible refine HBC.out.mono ?_); rintro ed w5 ⟨v5, rfl, o5, k5⟩; obtain ⟨g5, c5, r5, rfl, _⟩ := o5.open hpos; have cv5 := CVA.out _ _ _ (RB.own o5 HRB.out.2.2.1); have cb5 := CVA.out _ _ _ (HRB.out.mild k5); have K5 := Lib.hid k5; clear o5 k5)
            | (go_at_call 12; (with_reducible refine (SM.out _ K5.out).mono ?_); rintro ed w6 ⟨rfl, k6⟩; have K6 := Lib.hid k6; clear k6)
            | fail)
          all_goals
            go_wp2_with fail
            go_ret
            exact ⟨rfl, K1.out.trans (HKr.out.drew.trans (K5.out.trans K6.out))⟩
  · have i1 : (2147483647 : Int) < (nr : Int) := by omega
    go_enter Tryz.func3, Tryz.ntmps3
    go_wp2_with fail
    go_ret
    exact ⟨rfl, Kept.refl _ _⟩
end Go.Proofs
