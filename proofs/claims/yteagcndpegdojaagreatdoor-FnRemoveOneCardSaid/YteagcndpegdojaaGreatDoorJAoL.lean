/-
  Plain laws: a set with one number more: the parts, and the numbers of spec.Or.
  Bitmap.CheckedRemove: a number is taken out of the containers of a set, and whether it was there.
-/
import Derived.Test.YteagcndpegdojaaGreatDoorJQpl
import Derived.Test.YteagcndpegdojaaGreatDoorJAo
import Derived.Test.YteagcndpegdojaaGreatDoorJCc
import Derived.Test.YteagcndpegdojaaGreatDoorJRmq
import Derived.Test.YteagcndpegdojaaGreatDoorJKo
import Derived.Test.YteagcndpegdojaaGreatDoorJSi
import Derived.Deep.RegionHeld3
namespace Go.Roar
open Go.Proofs
/-- One number goes to the part that is there. -/
theorem one_set {ps : List (Nat × List Nat)} {i x : Nat} {l : List Nat} (h : OKP ps) (hi : ps[i]? = some (x / 65536, l)) :
    OKP (ps.set i (x / 65536, addS l (x % 65536) (x % 65536 + 1))) ∧ ∀ y, y ∈ allN (ps.set i (x / 65536, addS l (x % 65536) (x % 65536 + 1))) ↔ y ∈ allN ps ∨ y = x := by
  obtain ⟨h1, h2⟩ := part_set h hi (Nat.lt_succ_self (x % 65536)) (show x % 65536 + 1 ≤ 65536 by omega)
  refine ⟨h1, fun y => ?_⟩
  rw [h2]
  constructor
  · rintro (h | h)
    · exact .inl h
    · exact .inr (by omega)
  · rintro (h | h)
    · exact .inl h
    · exact .inr (by omega)
/-- One number makes a part of its own. -/
theorem one_ins {ps : List (Nat × List Nat)} {x : Nat} (h : OKP ps) (hx : x < 4294967296) (hno : (ps.map (·.1))[lb (ps.map (·.1)) (x / 65536)]? ≠ some (x / 65536)) :
    OKP (insAt ps (lb (ps.map (·.1)) (x / 65536)) (x / 65536, [x % 65536])) ∧ ∀ y, y ∈ allN (insAt ps (lb (ps.map (·.1)) (x / 65536)) (x / 65536, [x % 65536])) ↔ y ∈ allN ps ∨ y = x := by
  obtain ⟨h1, h2⟩ := part_ins h (show x / 65536 < 65536 by omega) hno (Nat.lt_succ_self (x % 65536)) (show x % 65536 + 1 ≤ 65536 by omega)
  rw [show List.range' (x % 65536) (x % 65536 + 1 - x % 65536) = [x % 65536] by rw [show x % 65536 + 1 - x % 65536 = 1 by omega]; rfl] at h1 h2
  refine ⟨h1, fun y => ?_⟩
  rw [h2]
  constructor
  · rintro (h | h)
    · exact .inl h
    · exact .inr (by omega)
  · rintro (h | h)
    · exact .inl h
    · exact .inr (by omega)
/-- Whether a number is in a set: by its part. -/
theorem one_in {ps : List (Nat × List Nat)} {i x : Nat} {l : List Nat} (h : OKP ps) (hi : ps[i]? = some (x / 65536, l)) : x ∈ allN ps ↔ x % 65536 ∈ l := by
  rw [allN_mem (fun p hp => (h.2 p hp).2.2.1)]
  constructor
  · rintro ⟨p, hp, hk, hm⟩
    obtain ⟨j, hj⟩ := List.getElem?_of_mem hp
    have hij : j = i := by
      obtain ⟨h1, e1⟩ := List.getElem?_eq_some_iff.1 hi
      obtain ⟨h2, e2⟩ := List.getElem?_eq_some_iff.1 hj
      rcases Nat.lt_trichotomy i j with hlt | he | hlt
      · have := List.pairwise_iff_getElem.1 h.1 i j h1 h2 hlt
        rw [e1, e2] at this
        simp at this; omega
      · exact he.symm
      · have := List.pairwise_iff_getElem.1 h.1 j i h2 h1 hlt
        rw [e1, e2] at this
        simp at this; omega
    subst hij
    rw [hi] at hj
    cases hj
    exact hm
  · exact fun hm => ⟨_, List.mem_of_getElem? hi, rfl, hm⟩
/-- The numbers of a set or one number. -/
theorem inR_plus {s : List (Nat × Nat)} (hs : ∀ r ∈ s, r.1 ≤ r.2) (x y : Nat) : inR (s ++ [(x, x)]) y ↔ y ∈ rgNums s ∨ y = x := by
  rw [inR_append, rgNums_mem hs]
  unfold inR
  constructor
  · rintro (h | ⟨r, hr, h1, h2⟩)
    · exact .inl h
    · simp at hr; subst hr
      exact .inr (by simp at h1 h2; omega)
  · rintro (h | h)
    · exact .inl h
    · exact .inr ⟨(x, x), by simp, by simp; omega, by simp; omega⟩
end Go.Roar

namespace Go.Roar
open Go.RowKit Go.Proofs
/-- A part in the middle goes on: what stands ahead of it stays. -/
theorem SS.midR {w0 w1 w2 : World} {F : List Nat} {L R M R' : List HA} (h : SS w0 F w1 (L ++ (R ++ M))) (k : SS w1 (foot R) w2 R') : SS w0 F w2 (L ++ (R' ++ M)) := by
  have p : (L ++ (R ++ M)).Perm (R ++ (L ++ M)) := by
    rw [← List.append_assoc, ← List.append_assoc]
    exact List.Perm.append_right M List.perm_append_comm
  have q : (L ++ (R' ++ M)).Perm (R' ++ (L ++ M)) := by
    rw [← List.append_assoc, ← List.append_assoc]
    exact List.Perm.append_right M List.perm_append_comm
  exact ((h.perm p).frame k).perm q.symm
theorem no_keyR {ps : List (Nat × List Nat)} {x : Nat} (h : OKP ps) (hno : (ps.map (·.1))[lb (ps.map (·.1)) (x / 65536)]? ≠ some (x / 65536)) : x ∉ allN ps := by
  intro hx
  obtain ⟨q, hq, hk, _⟩ := (allN_mem (fun p hp => (h.2 p hp).2.2.1) x).1 hx
  exact hno ((mem_lb h.keys).1 (by rw [hk]; exact List.mem_map.2 ⟨q, hq, rfl⟩))
end Go.Roar
namespace Go.Proofs
open Go.RowKit Go.Roar

set_option maxRecDepth 100000 in
set_option maxHeartbeats 8000000 in
theorem checkedRemove_any (p : Nat) (t : TypeId) (vk vc vw : Value) (q : List Kon) (x : Nat) (w : World) (hx : x < 4294967296) (ok : OKP (psOf q)) (few : FewRuns (psOf q) 900) (h : Parts w (BMP p t vk vc vw q)) :
    Calls Tryz.prog 18 #[.pointer (some ⟨p, 0, none⟩), .int .u32 (x : Int)] w fun ed w' => ed = .returned (.bool (decide (x ∈ allN (psOf q)))) ∧ ∃ vk' vc' vw' q', SS w (foot (BMP p t vk vc vw q)) w' (BMP p t vk' vc' vw' q') ∧ OKP (psOf q') ∧
      ∀ y, y ∈ allN (psOf q') ↔ y ∈ allN (psOf q) ∧ y ≠ x := by
  have S0 := SS.init h
  generalize foot (BMP p t vk vc vw q) = F at *
  obtain ⟨hb, hhb⟩ : ∃ hb, hb = x / 65536 := ⟨_, rfl⟩
  obtain ⟨lx, hlx⟩ : ∃ lx, lx = x % 65536 := ⟨_, rfl⟩
  have hb1 : hb < 65536 := by omega
  have hl1 : lx < 65536 := by omega
  have hxe : x = hb * 65536 + lx := by omega
  have CH := Lib.hid (show Calls Tryz.prog 27 #[.int .u32 (x : Int)] w fun ed w' => ed = .returned (.int .u16 (hb : Int)) ∧ w = w' from by rw [hhb]; exact high_any x w hx)
  have CL := Lib.hid (show ∀ W : World, Calls Tryz.prog 30 #[.int .u32 (x : Int)] W fun ed w' => ed = .returned (.int .u16 (lx : Int)) ∧ W = w' from fun W => by rw [hlx]; exact low_any x W hx)
  have hkeys := ok.keys
  rw [psOf_keys] at hkeys
  have hkb : ∀ y ∈ q.map (·.key), y < 65536 := fun y hy => by
    obtain ⟨z, hz, rfl⟩ := List.mem_map.1 hy
    exact (ok.2 (z.key, z.l) (List.mem_map.2 ⟨z, hz, rfl⟩)).1
  have hql : (q.map (·.key)).length ≤ 65536 := sorted_count hkeys 65536 hkb
  have hlb := lb_le (q.map (·.key)) hb
  have hRA : RA w p vk vc vw (q.map (·.key)) (q.map (·.v)) := RA.of (Parts.left S0.sep)
  have GI := Lib.hid (getIndex_any p vk vc vw (q.map (·.key)) (q.map (·.v)) hb w hkeys hkb hql hb1 hRA)
  obtain ⟨i, hi⟩ : ∃ i, i = lb (q.map (·.key)) hb := ⟨_, rfl⟩
  rw [← hi] at hlb
  have Hi := Lib.hid hi
  have Hok := Lib.hid ok
  have HS0 := Lib.hid S0
  have Hhb := Lib.hid hhb
  have Hxe := Lib.hid hxe
  clear hxe
  by_cases hc : (q.map (·.key))[lb (q.map (·.key)) hb]? = some hb
  · have hbs : bsOf (q.map (·.key)) hb = (i : Int) := by unfold bsOf; rw [if_pos hc, hi]
    rw [hbs] at GI
    rw [← hi, List.getElem?_map] at hc
    obtain ⟨z, hz, hzk⟩ := Option.map_eq_some_iff.1 hc
    have hil : i < (q.map (·.key)).length := by have := (List.getElem?_eq_some_iff.1 hz).1; simpa using this
    have hil2 : i < q.length := (List.getElem?_eq_some_iff.1 hz).1
    have GW := Lib.hid (getWritable_any p vk vc vw (q.map (·.key)) (q.map (·.v)) i z.v w hil (by rw [List.getElem?_map, hz]; rfl) hRA)
    obtain ⟨L, hK, hS⟩ := bmp_open S0 hz
    have hfz : (runsOf z.l).length ≤ 900 := few (z.key, z.l) (List.mem_map.2 ⟨z, List.mem_of_getElem? hz, rfl⟩)
    obtain ⟨tt, ad, fn, hv, n1, n2, n3, hAD⟩ := kc_rem hK hfz
    obtain ⟨tt', ad', fc, hv', m1, m2, m3, hCD⟩ := kc_card hK
    have hsz := (KC.plain hK).1
    have hbz := (KC.plain hK).2.1
    have hlen0 : z.l.length ≤ 65536 := sorted_count hsz 65536 hbz
    rw [hv] at hv'
    simp only [Value.iface.injEq, Value.pointer.injEq, Option.some.injEq] at hv'
    obtain ⟨rfl, rfl⟩ := hv'
    have AD := Lib.hid (fun (W : World) (hP : Parts W L) => hAD lx W hl1 hP)
    have CD := Lib.hid (hCD w hS.left.sep)
    have HS := Lib.hid hS
    have Hz := Lib.hid hz
    have Hzk := Lib.hid hzk
    have Hless := Lib.hid (wo_less (x := lx) hsz)
    have Hlen := Lib.hid (show (wo z.l lx).length ≤ 65536 from sorted_count (wo_rising hsz lx) 65536 (wo_lt hbz lx))
    have Hin := Lib.hid (show decide (x ∈ allN (psOf q)) = decide (lx ∈ z.l) from by
      have hpz := psOf_at hz
      rw [hzk, hhb] at hpz
      rw [decide_eq_decide, one_in ok hpz, hlx])
    have Hmem := Lib.hid (fun (he : wo z.l lx = []) => show lx ∈ z.l from by
      refine Decidable.byContradiction fun hno => ?_
      rw [wo_none hno] at he
      exact (KC.plain hK).2.2 he)
    rw [hv] at GW
    have SC := Lib.hid (fun (ct : TypeId) (cv : Value) (W : World) (hP : Parts W (RAL p t vk vc vw (q.map (·.key)) (q.map (·.v)))) => setContainer_ss p t vk vc vw (q.map (·.key)) (q.map (·.v)) i ct cv W hil hP)
    have GC := Lib.hid (fun (c5 : Value) (W : World) (hP : Parts W (RAL p t vk vc vw (q.map (·.key)) ((q.map (·.v)).set i c5))) => contAt_any p t vk vc vw (q.map (·.key)) ((q.map (·.v)).set i c5) i c5 W hil (List.getElem?_set_self (by simpa using hil2)) hP)
    have RI := Lib.hid (fun (c5 : Value) (W : World) (hone : c5.oneCell' = true) (hP : Parts W (RAL p t vk vc vw (q.map (·.key)) ((q.map (·.v)).set i c5) )) (hk : ∀ v ∈ q.map (·.v), v.oneCell' = true) => removeAt_any p t vk vc vw (q.map (·.key)) ((q.map (·.v)).set i c5) i W hil (by omega) (fun v hv => by
      rcases List.mem_or_eq_of_mem_set hv with hv | rfl
      · exact hk v hv
      · exact hone) hP)
    have Hone := Lib.hid (KAs_one (Parts.right S0.sep))
    clear hc hz hzk hK hS hAD hCD hv hbs hkeys hkb hi hRA ok few h S0 hhb hlx hfz hsz hbz hil2
    generalize (q.map (·.key)).length = nk at *
    generalize z.l.length = n0 at *
    have i3 : (0 : Int) ≤ (i : Int) := by omega
    by_cases hemp : wo z.l lx = []
    · have Hemp := Lib.hid hemp
      have Hmem2 := Lib.hid (Hmem.out hemp)
      have hde : decide (wo z.l lx = []) = true := decide_eq_true hemp
      have Hde := Lib.hid hde
      clear hemp hde
      go_enter Tryz.func18, Tryz.ntmps18
      go_upto_region 6 with (first
        | (go_at_call 27; refine CH.out.mono ?_; rintro ed w1 ⟨rfl, rfl⟩)
        | (go_at_call 28; refine GI.out.mono ?_; rintro ed w1 ⟨rfl, rfl⟩)
        | (go_at_call 29; refine GW.out.mono ?_; rintro ed w1 ⟨rfl, rfl⟩)
        | ((with_reducible refine CD.out.mono ?_); rintro ed w2 ⟨rfl, k2⟩; have HS2 := Lib.hid (HS.out.quiet k2); clear k2)
        | fail)
      go_region_held3 (fun _ => True) (first | trivial) (first
        | (go_at_call 30; (with_reducible refine (CL.out _).mono ?_); rintro ed w3 ⟨rfl, rfl⟩; have hT1 := True.intro)
        | ((with_reducible refine (AD.out _ HS2.out.drew.left.sep).mono ?_); rintro ed w4 ⟨t4, v4, L4, rfl, hK4, hS4⟩; have HK4 := Lib.hid hK4; have S4 := Lib.hid (HS2.out.drew.frame hS4); have S5 := Lib.hid (S4.out.right); obtain ⟨tt5, ad5, fd, hv5, o1, o2, o3, hEM⟩ := ke_empty hK4; simp only [Value.iface.injEq] at hv5; obtain ⟨rfl, rfl⟩ := hv5; rw [Hde.out] at hEM; have EM := Lib.hid hEM; clear hK4 hS4 hEM; have hT2 := True.intro)
        | fail)
      all_goals
        go_wp2_with (first
          | (go_at_call 31; refine (SC.out _ _ _ S5.out.sep.left).mono ?_; rintro ed w5 ⟨rfl, hS6⟩; have HS6 := Lib.hid (SS.midR S4.out hS6); clear hS6)
          | (go_at_call 32; (with_reducible refine (GC.out _ _ HS6.out.right.left.sep).mono ?_); rintro ed w6 ⟨rfl, rfl⟩)
          | ((with_reducible refine (EM.out _ HS6.out.left.sep).mono ?_); rintro ed w7 ⟨rfl, rfl⟩)
          | (go_at_call 33; refine (RI.out _ _ rfl HS6.out.right.left.sep Hone.out).mono ?_; rintro ed w8 ⟨rfl, vk8, vc8, vw8, hS8⟩; have HS8 := Lib.hid hS8; clear hS8)
          | fail)
        go_ret
        have hB := bmp_del HS6.out (by rw [← set_erase (q.map (·.v)) i (.iface t4 (.pointer (some ad5)))]; exact HS8.out)
        obtain ⟨o1, o2⟩ := del_facts Hok.out Hz.out hl1 Hemp.out
        exact ⟨by rw [Hin.out, decide_eq_true Hmem2.out]; rfl, vk8, vc8, vw8, _, hB, o1, fun y => by rw [o2, Hzk.out, ← Hxe.out]⟩
    · have Hemp := Lib.hid hemp
      have hde : decide (wo z.l lx = []) = false := decide_eq_false hemp
      have Hde := Lib.hid hde
      clear hemp hde
      generalize hn4 : (wo z.l lx).length = n4 at *
      have Hn4 := Lib.hid hn4
      clear hn4
      go_enter Tryz.func18, Tryz.ntmps18
      go_upto_region 6 with (first
        | (go_at_call 27; refine CH.out.mono ?_; rintro ed w1 ⟨rfl, rfl⟩)
        | (go_at_call 28; refine GI.out.mono ?_; rintro ed w1 ⟨rfl, rfl⟩)
        | (go_at_call 29; refine GW.out.mono ?_; rintro ed w1 ⟨rfl, rfl⟩)
        | ((with_reducible refine CD.out.mono ?_); rintro ed w2 ⟨rfl, k2⟩; have HS2 := Lib.hid (HS.out.quiet k2); clear k2)
        | fail)
      go_region_held3 (fun _ => True) (first | trivial) (first
        | (go_at_call 30; (with_reducible refine (CL.out _).mono ?_); rintro ed w3 ⟨rfl, rfl⟩; have hT1 := True.intro)
        | ((with_reducible refine (AD.out _ HS2.out.drew.left.sep).mono ?_); rintro ed w4 ⟨t4, v4, L4, rfl, hK4, hS4⟩; have HK4 := Lib.hid hK4; have S4 := Lib.hid (HS2.out.drew.frame hS4); have S5 := Lib.hid (S4.out.right); obtain ⟨tt5, ad5, fd, hv5, o1, o2, o3, hEM⟩ := ke_empty hK4; simp only [Value.iface.injEq] at hv5; obtain ⟨rfl, rfl⟩ := hv5; rw [Hde.out] at hEM; have EM := Lib.hid hEM; obtain ⟨k4, hKC4⟩ := KE.some hK4 Hemp.out; have HKC4 := Lib.hid hKC4; obtain ⟨tt6, ad6, fe, hv6, p1, p2, p3, hCD5⟩ := kc_card hKC4; simp only [Value.iface.injEq, Value.pointer.injEq, Option.some.injEq] at hv6; obtain ⟨rfl, rfl⟩ := hv6; rw [Hn4.out] at hCD5; have CD5 := Lib.hid hCD5; clear hK4 hS4 hEM hCD5 hKC4; have hT2 := True.intro)
        | fail)
      all_goals
        go_wp2_with (first
          | (go_at_call 31; refine (SC.out _ _ _ S5.out.sep.left).mono ?_; rintro ed w5 ⟨rfl, hS6⟩; have HS6 := Lib.hid (SS.midR S4.out hS6); have HR6 := Lib.hid hS6; clear hS6)
          | (go_at_call 32; (with_reducible refine (GC.out _ _ HS6.out.right.left.sep).mono ?_); rintro ed w6 ⟨rfl, rfl⟩)
          | ((with_reducible refine (EM.out _ HS6.out.left.sep).mono ?_); rintro ed w7 ⟨rfl, rfl⟩)
          | ((with_reducible refine (CD5.out _ HS6.out.left.sep).mono ?_); rintro ed w8 ⟨rfl, k8⟩; have K8 := Lib.hid k8; clear k8)
          | fail)
        go_ret
        have hB := bmp_shut (y := ⟨z.key, .iface t4 (.pointer (some ad5)), wo z.l lx, k4, foot L4⟩) Hz.out rfl rfl HKC4.out S4.out HR6.out
        obtain ⟨o1, o2⟩ := cut_facts (z := ⟨z.key, .iface t4 (.pointer (some ad5)), wo z.l lx, k4, foot L4⟩) Hok.out Hz.out hl1 Hemp.out rfl rfl
        have hm2 := Hless.out
        exact ⟨by rw [Hin.out, ← hm2]; rfl, vk, vc, vw, _, hB.quiet K8.out, o1, fun y => by rw [o2, Hzk.out, ← Hxe.out]⟩
  · have hbs : bsOf (q.map (·.key)) hb = - ((i : Int) + 1) := by unfold bsOf; rw [if_neg hc, hi]
    rw [hbs] at GI
    have Hc := Lib.hid hc
    have i3 : ¬ (0 : Int) ≤ - ((i : Int) + 1) := by omega
    clear hc hbs hkeys hkb hi hRA ok few h S0 hhb hlx
    generalize (q.map (·.key)).length = nk at *
    go_enter Tryz.func18, Tryz.ntmps18
    go_wp2_with (first
      | (go_at_call 27; refine CH.out.mono ?_; rintro ed w1 ⟨rfl, rfl⟩)
      | (go_at_call 28; refine GI.out.mono ?_; rintro ed w1 ⟨rfl, rfl⟩)
      | fail)
    go_ret
    have hno : x ∉ allN (psOf q) := no_keyR Hok.out (by rw [psOf_keys, ← Hhb.out]; exact Hc.out)
    exact ⟨by rw [decide_eq_false hno]; rfl, vk, vc, vw, q, HS0.out, Hok.out, fun y => ⟨fun hy => ⟨hy, fun e => hno (e ▸ hy)⟩, fun hy => hy.1⟩⟩
end Go.Proofs
