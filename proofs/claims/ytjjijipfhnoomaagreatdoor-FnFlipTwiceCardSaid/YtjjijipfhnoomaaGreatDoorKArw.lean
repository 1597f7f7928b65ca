/-
  Bitmap.AddRange: the walk.
-/
import Derived.Test.YtjjijipfhnoomaaGreatDoorJKo
namespace Go.Roar
open Go.RowKit Go.Proofs
theorem AR.raOf {w0 wr : World} {F : List Nat} {p : Nat} {t : TypeId} {m : Nat} {N : List Nat} {q0 : List Kon} {S E h : Nat} {vk vc vw : Value} {q : List Kon} (a : AR w0 F p t m N q0 S E wr h vk vc vw q) : RA wr p vk vc vw (q.map (·.key)) (q.map (·.v)) := RA.of (Parts.left a.ss.sep)
end Go.Roar
namespace Go.Proofs
open Go.RowKit Go.Roar

theorem rangeOfOnes_int (s t : Nat) (A B : Int) (w : World) (hA : A = (s : Int)) (hB : B = (t : Int)) (hst : s ≤ t) (ht : t < 65536) :
    Calls Tryz.prog 38 #[.int .i64 A, .int .i64 B] w fun ed w' => ∃ tt v k L, ed = .returned (.iface tt v) ∧ KC (.iface tt v) (List.range' s (t + 1 - s)) k L ∧ SS w [] w' L ∧ k = kindOf (List.range' s (t + 1 - s)) := by
  subst hA hB; exact rangeOfOnes_any s t w hst ht
theorem insert_int (p : Nat) (t : TypeId) (vk vc vw : Value) (ks : List Nat) (cs : List Value) (i key : Nat) (I J : Int) (ct : TypeId) (cv : Value) (w : World) (hI : I = (i : Int)) (hJ : J = (key : Int)) (hi : i ≤ ks.length) (hlen : ks.length < 65536) (hone : ∀ v ∈ cs, v.oneCell' = true)
    (h : Parts w (RAL p t vk vc vw ks cs)) :
    Calls Tryz.prog 37 #[.pointer (some ⟨p, 0, none⟩), .int .i64 I, .int .u16 J, .iface ct cv] w fun e w' => e = .returned (.tuple #[]) ∧
      ∃ vk' vc' vw', SS w (foot (RAL p t vk vc vw ks cs)) w' (RAL p t vk' vc' vw' (ins ks i key) (ins cs i (.iface ct cv))) := by
  subst hI hJ; exact insert_any p t vk vc vw ks cs i key ct cv w hi hlen hone h

set_option maxRecDepth 100000 in
set_option maxHeartbeats 8000000 in
theorem addRange_any (p : Nat) (t : TypeId) (vk vc vw : Value) (q : List Kon) (m S E : Nat) (w : World) (hSE : S < E) (hE : E ≤ 4294967296) (ok : OKP (psOf q)) (few : FewRuns (psOf q) m) (h : Parts w (BMP p t vk vc vw q)) :
    Calls Tryz.prog 20 #[.pointer (some ⟨p, 0, none⟩), .int .u64 (S : Int), .int .u64 (E : Int)] w fun ed w' => ed = .returned (.tuple #[]) ∧ ∃ vk' vc' vw' q', SS w (foot (BMP p t vk vc vw q)) w' (BMP p t vk' vc' vw' q') ∧ OKP (psOf q') ∧ FewRuns (psOf q') (m + 1) ∧
      (∀ x, x ∈ allN (psOf q') ↔ x ∈ allN (psOf q) ∨ (S ≤ x ∧ x < E)) ∧ KAR q q' S E := by
  obtain ⟨hs, hhs⟩ : ∃ hs, hs = S / 65536 := ⟨_, rfl⟩
  obtain ⟨hl, hhl⟩ : ∃ hl, hl = (E - 1) / 65536 := ⟨_, rfl⟩
  obtain ⟨ls, hls⟩ : ∃ ls, ls = S % 65536 := ⟨_, rfl⟩
  obtain ⟨ll, hll⟩ : ∃ ll, ll = (E - 1) % 65536 := ⟨_, rfl⟩
  obtain ⟨E1, hE1⟩ : ∃ E1, E1 = E - 1 := ⟨_, rfl⟩
  obtain ⟨F, hF⟩ : ∃ F, F = foot (BMP p t vk vc vw q) := ⟨_, rfl⟩
  obtain ⟨N, hN⟩ : ∃ N, N = allN (psOf q) := ⟨_, rfl⟩
  have HA0 : Hid (AR w F p t m N q S E w hs vk vc vw q) := Lib.hid ⟨by rw [hF]; exact SS.init h, ok, FewAt.start few hs, fun x => by rw [hN, hhs]; exact ⟨.inl, fun h => h.elim id (fun h => by omega)⟩, KAR.refl q S E, fun x hx => ⟨x, hx, rfl⟩⟩
  obtain ⟨q0, hq0⟩ : ∃ q0, q0 = q := ⟨_, rfl⟩
  have HA0 : Hid (AR w F p t m N q0 S E w hs vk vc vw q) := by rw [hq0]; exact HA0
  rw [← hF]
  rw [← hN]
  have Hq0 := Lib.hid hq0
  clear hq0
  have hb1 : hs ≤ hl := by omega
  have hb2 : hl < 65536 := by omega
  have hb3 : ls < 65536 := by omega
  have hb4 : ll < 65536 := by omega
  have hS1 : S < 4294967296 := by omega
  have e1 : (E : Int) - 1 = (E1 : Int) := by omega
  have hE1b : E1 < 4294967296 := by omega
  have HI := Lib.hid (fun (x : Nat) (W : World) (hx : x < 4294967296) => high_any x W hx)
  have HJ := Lib.hid (fun (x : Nat) (W : World) (hx : x < 4294967296) => low_any x W hx)
  have c1 := Lib.hid (high_any S w hS1)
  have c2 := Lib.hid (low_any S w hS1)
  have c3 := Lib.hid (high_any E1 w hE1b)
  have c4 := Lib.hid (low_any E1 w hE1b)
  rw [hE1, ← hhl] at c3
  rw [hE1, ← hll] at c4
  rw [← hhs] at c1
  rw [← hls] at c2
  rw [← hE1] at c3 c4
  have Hhs := Lib.hid hhs
  have Hhl := Lib.hid hhl
  have Hls := Lib.hid hls
  have Hll := Lib.hid hll
  have HE1 := Lib.hid hE1
  have HSE := Lib.hid hSE
  clear hhs hhl hls hll hF hN h ok few HI HJ
  have i1 : ¬ (E : Int) ≤ (S : Int) := by omega
  have i2 : ¬ (4294967295 : Int) < (E1 : Int) := by omega
  have q1 : IntKind.u32.wrap (S : Int) = (S : Int) := IntWalk.u32_in _ (by omega)
  have q2 : IntKind.u32.wrap (E1 : Int) = (E1 : Int) := IntWalk.u32_in _ (by omega)
  have q3 : IntKind.u32.wrap (hs : Int) = (hs : Int) := IntWalk.u32_in _ (by omega)
  have q4 : IntKind.u32.wrap (hl : Int) = (hl : Int) := IntWalk.u32_in _ (by omega)
  have q5 : IntKind.u32.wrap (ls : Int) = (ls : Int) := IntWalk.u32_in _ (by omega)
  have q6 : IntKind.u32.wrap (ll : Int) = (ll : Int) := IntWalk.u32_in _ (by omega)
  have q7 : IntKind.u64.wrap ((E : Int) - 1) = (E1 : Int) := by rw [e1]; exact IntWalk.u64_in _ (by omega)
  clear hSE hE1
  go_enter Tryz.func20, Tryz.ntmps20
  go_wp2_with (first
    | (go_at_call 32; first | (refine c1.out.mono ?_; rintro ed w1 ⟨rfl, rfl⟩) | (refine c3.out.mono ?_; rintro ed w1 ⟨rfl, rfl⟩))
    | (go_at_call 33; first | (refine c2.out.mono ?_; rintro ed w1 ⟨rfl, rfl⟩) | (refine c4.out.mono ?_; rintro ed w1 ⟨rfl, rfl⟩))
    | fail)
  clear c1 c2 c3 c4 q1 q2 q3 q4 q5 q6 q7 i1 i2 e1
  go_loopw [11] (fun hb wr => ∃ (h : Nat) (vk vc vw : Value) (q : List Kon), hb = .int .u32 (h : Int) ∧ hs ≤ h ∧ h ≤ hl + 1 ∧ Hid (AR w F p t m N q0 S E wr h vk vc vw q)) (fun hb _ => hl + 1 - (intOf hb).toNat)
  case atStart => exact ⟨hs, vk, vc, vw, q, rfl, Nat.le_refl _, by omega, HA0⟩
  case round =>
    clear HA0
    obtain ⟨h, vk, vc, vw, q, rfl, hh1, hh2, HA⟩ := hrel
    by_cases hlt : h ≤ hl
    · obtain ⟨k1, k2, k3⟩ := cs_cl HSE.out (show S / 65536 ≤ h by have := Hhs.out; omega) (show h ≤ (E - 1) / 65536 by have := Hhl.out; omega)
      have e1 : csOf S h = if h = hs then ls else 0 := by rw [Hhs.out, Hls.out]; rfl
      have e2 : clOf E h = if h = hl then ll else 65535 := by rw [Hhl.out, Hll.out]; rfl
      generalize hcs : csOf S h = cs at *
      generalize hcl : clOf E h = cl at *
      have Hcs := Lib.hid hcs
      have Hcl := Lib.hid hcl
      have K3 := Lib.hid k3
      clear hcs hcl k3
      have i1 : (h : Int) ≤ (hl : Int) := by omega
      have E1' := Lib.hid e1
      have E2' := Lib.hid e2
      clear e1 e2
      go_upto_if 49 with fail
      go_cut [12] (fun s12 wx => s12 = .int .u32 (cs : Int) ∧ wr = wx)
      case first =>
        have e1 := E1'.out
        by_cases hc : h = hs
        · rw [if_pos hc] at e1
          subst hc
          go_wp2
          go_meet
          case rel => exact ⟨by rw [e1], rfl⟩
        · rw [if_neg hc] at e1
          have i3 : ((h : Int) == (hs : Int)) = false := by rw [beq_eq_false_iff_ne]; omega
          have i4 : ¬ (h : Int) = (hs : Int) := by omega
          go_wp2
          go_meet
          case rel => exact ⟨by rw [e1]; rfl, rfl⟩
      case rest =>
        obtain ⟨rfl, rfl⟩ := hcut
        go_upto_if 54 with fail
        go_cut [13] (fun s13 wx => s13 = .int .u32 (cl : Int) ∧ wr = wx)
        case first =>
          have e2 := E2'.out
          by_cases hc : h = hl
          · rw [if_pos hc] at e2
            subst hc
            go_wp2
            go_meet
            case rel => exact ⟨by rw [e2], rfl⟩
          · rw [if_neg hc] at e2
            have i3 : ((h : Int) == (hl : Int)) = false := by rw [beq_eq_false_iff_ne]; omega
            have i4 : ¬ (h : Int) = (hl : Int) := by omega
            go_wp2
            go_meet
            case rel => exact ⟨by rw [e2]; rfl, rfl⟩
        case rest =>
          obtain ⟨rfl, rfl⟩ := hcut
          clear E1' E2'
          have hkeys := HA.out.ok.keys
          rw [psOf_keys] at hkeys
          have hkb : ∀ y ∈ q.map (·.key), y < 65536 := fun y hy => by
            obtain ⟨x, hx, rfl⟩ := List.mem_map.1 hy
            exact (HA.out.ok.2 (x.key, x.l) (List.mem_map.2 ⟨x, hx, rfl⟩)).1
          have hql : (q.map (·.key)).length ≤ 65536 := sorted_count hkeys 65536 hkb
          have hlb := lb_le (q.map (·.key)) h
          have GI := Lib.hid (getIndex_any p vk vc vw (q.map (·.key)) (q.map (·.v)) h wr hkeys hkb hql (by omega) HA.out.raOf)
          have i2 : IntKind.u16.wrap (h : Int) = (h : Int) := IntWalk.u16_in _ (by omega)
          obtain ⟨i, hi⟩ : ∃ i, i = lb (q.map (·.key)) h := ⟨_, rfl⟩
          rw [← hi] at hlb
          have Hi := Lib.hid hi
          by_cases hc : (q.map (·.key))[lb (q.map (·.key)) h]? = some h
          · have hbs : bsOf (q.map (·.key)) h = (i : Int) := by unfold bsOf; rw [if_pos hc, hi]
            rw [hbs] at GI
            rw [← hi, List.getElem?_map] at hc
            obtain ⟨x, hx, hxk⟩ := Option.map_eq_some_iff.1 hc
            have hil : i < (q.map (·.key)).length := by have := (List.getElem?_eq_some_iff.1 hx).1; simpa using this
            have GW := Lib.hid (getWritable_any p vk vc vw (q.map (·.key)) (q.map (·.v)) i x.v wr hil (by rw [List.getElem?_map, hx]; rfl) HA.out.raOf)
            obtain ⟨L, hK, hS⟩ := bmp_open HA.out.ss hx
            obtain ⟨tt, ad, fn, hv, n1, n2, n3, hAD⟩ := kc_iadd hK
            have AD := hAD cs (cl + 1) wr (by omega) (by omega) hS.left.sep
            rw [show ((cl + 1 : Nat) : Int) = (cl : Int) + 1 by omega] at AD
            have HAD := Lib.hid AD
            have HS := Lib.hid hS
            have Hx := Lib.hid hx
            have Hxk := Lib.hid hxk
            rw [hv] at GW
            have SC := Lib.hid (fun (ct : TypeId) (cv : Value) (W : World) (hP : Parts W (RAL p t vk vc vw (q.map (·.key)) (q.map (·.v)))) => setContainer_ss p t vk vc vw (q.map (·.key)) (q.map (·.v)) i ct cv W hil hP)
            clear hc hx hxk hK hS hAD AD hv hbs hkeys hkb hi
            generalize (q.map (·.key)).length = nk at *
            have i3 : (0 : Int) ≤ (i : Int) := by omega
            go_wp2_with (first
              | (go_at_call 34; refine GI.out.mono ?_; rintro ed w1 ⟨rfl, rfl⟩)
              | (go_at_call 35; refine GW.out.mono ?_; rintro ed w1 ⟨rfl, rfl⟩)
              | (go_at_call 36; refine (SC.out _ _ _ S5.out.sep.left).mono ?_; rintro ed w5 ⟨rfl, hS6⟩)
              | ((with_reducible refine HAD.out.mono ?_); rintro ed w4 ⟨t4, v4, k4, L4, rfl, hK4, hS4, h24⟩; have HK4 := Lib.hid hK4; have S4 := Lib.hid (HS.out.frame hS4); have S5 := Lib.hid (S4.out.right); have H24 := Lib.hid h24; clear hK4 hS4 h24)
              | fail)
            go_roundw
            case rel =>
              have hB := bmp_shut (y := ⟨x.key, .iface t4 v4, addS x.l cs (cl + 1), k4, foot L4⟩) Hx.out rfl rfl HK4.out S4.out hS6
              have hA := AR.set (y := ⟨x.key, .iface t4 v4, addS x.l cs (cl + 1), k4, foot L4⟩) HA.out HSE.out (show S / 65536 ≤ h by have := Hhs.out; omega) (show h ≤ (E - 1) / 65536 by have := Hhl.out; omega) Hx.out Hxk.out rfl (by rw [Hcs.out, Hcl.out]) H24.out hB
              exact ⟨h + 1, vk, vc, vw, _, by go_num, by omega, by omega, Lib.hid hA⟩
            case measure => simp only [intOf]; omega
          · have hbs : bsOf (q.map (·.key)) h = - ((i : Int) + 1) := by unfold bsOf; rw [if_neg hc, hi]
            rw [hbs] at GI
            have RO := Lib.hid (fun (W : World) (A C : Int) (hA : A = (cs : Int)) (hC : C = (cl : Int)) => rangeOfOnes_int cs cl A C W hA hC k1 k2)
            have hlen : (q.map (·.key)).length < 65536 := by
              rcases Nat.lt_or_ge (q.map (·.key)).length 65536 with h' | h'
              · exact h'
              · exfalso
                apply hc
                have hmem : h ∈ q.map (·.key) := by
                  refine Decidable.byContradiction fun hno => ?_
                  have h1 := sorted_sub hkeys ((List.pairwise_lt_range' (s := 0) (n := 65536)).filter (fun x => decide (x ≠ h))) (fun x hx => by
                    rw [List.mem_filter, List.mem_range'_1]
                    have := hkb x hx
                    exact ⟨by omega, by simp; rintro rfl; exact hno hx⟩)
                  have h2 : ((List.range' 0 65536).filter (fun x => decide (x ≠ h))).length < (List.range' 0 65536).length := List.length_filter_lt_length_iff_exists.2 ⟨h, by rw [List.mem_range'_1]; omega, by simp⟩
                  rw [List.length_range'] at h2
                  omega
                obtain ⟨j, hj⟩ := List.getElem?_of_mem hmem
                rw [(bsOf_at hkeys hj).2]
                exact hj
            have IK := Lib.hid (fun (ct : TypeId) (cv : Value) (W : World) (I J : Int) (hI : I = (i : Int)) (hJ : J = (h : Int)) (hP : Parts W (RAL p t vk vc vw (q.map (·.key)) (q.map (·.v)))) (hone : ∀ v ∈ q.map (·.v), v.oneCell' = true) => insert_int p t vk vc vw (q.map (·.key)) (q.map (·.v)) i h I J ct cv W hI hJ hlb hlen hone hP)
            have Hc := Lib.hid hc
            clear hc hbs hkeys hkb hi hlen
            generalize (q.map (·.key)).length = nk at *
            have i3 : ¬ (0 : Int) ≤ - ((i : Int) + 1) := by omega
            go_upto_region 21 with (first
              | (go_at_call 34; refine GI.out.mono ?_; rintro ed w1 ⟨rfl, rfl⟩)
              | fail)
            have hone := KAs_one (Parts.right HA.out.ss.sep)
            have Hone := Lib.hid hone
            have HSd := Lib.hid HA.out.ss.drew
            clear hone
            go_region_held3 (fun _ => True) (first | trivial) (first
              | (go_at_call 38; (with_reducible refine (RO.out _ (IntKind.i64.wrap (cs : Int)) (IntKind.i64.wrap (cl : Int)) (IntWalk.i64_in _ (by omega)) (IntWalk.i64_in _ (by omega))).mono ?_); rintro ed w4 ⟨t4, v4, k4, L4, rfl, hK4, hS4, h24⟩; have HK4 := Lib.hid hK4; have HS4 := Lib.hid hS4; have S4 := Lib.hid (SS.join HSd.out hS4); have H24 := Lib.hid h24; clear hK4 hS4 h24; have hT1 := True.intro)
              | (go_at_call 37; (with_reducible refine (IK.out _ _ _ (IntKind.i64.wrap (IntKind.i64.wrap ((i : Int) + 1) - 1)) (h : Int) (by rw [IntWalk.i64_in ((i : Int) + 1) (by omega), IntWalk.i64_in _ (by omega)]; omega) rfl S4.out.right.left.sep Hone.out).mono ?_); rintro ed w5 ⟨rfl, vk5, vc5, vw5, hS5⟩; have HS5 := Lib.hid hS5; clear hS5; have hT2 := True.intro)
              | fail)
            all_goals
              go_wp2
              go_roundw
              case rel =>
                have hB := bmp_ins (y := ⟨h, .iface t4 v4, List.range' cs (cl + 1 - cs), k4, foot L4⟩) rfl HK4.out HSd.out HS4.out HS5.out
                rw [Hi.out] at hB
                have hA := AR.ins (y := ⟨h, .iface t4 v4, List.range' cs (cl + 1 - cs), k4, foot L4⟩) HA.out HSE.out hE (show S / 65536 ≤ h by have := Hhs.out; omega) (show h ≤ (E - 1) / 65536 by have := Hhl.out; omega) Hc.out rfl (by rw [Hcs.out, Hcl.out]) (by rw [Hcs.out, Hcl.out]; exact H24.out) hB
                exact ⟨h + 1, vk5, vc5, vw5, _, by go_num, by omega, by omega, Lib.hid hA⟩
              case measure => simp only [intOf]; omega
    · obtain rfl : h = hl + 1 := by omega
      have i1 : ¬ (((hl + 1 : Nat) : Int) ≤ (hl : Int)) := by omega
      go_wp2
      go_end0
      refine ⟨rfl, vk, vc, vw, q, HA.out.ss, HA.out.ok, HA.out.few.fin, fun x => ?_, by rw [← Hq0.out]; exact HA.out.kar⟩
      rw [HA.out.nums x]
      have := HSE.out
      have := Hhl.out
      refine or_congr Iff.rfl ⟨fun h => ⟨h.1, h.2.1⟩, fun h => ⟨h.1, h.2, by omega⟩⟩
end Go.Proofs
