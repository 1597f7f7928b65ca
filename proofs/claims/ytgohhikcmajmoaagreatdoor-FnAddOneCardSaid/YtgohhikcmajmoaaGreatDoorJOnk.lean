/-
  One number added to a container of any kind; how many numbers a container has: the methods, by the container's type.
  Bitmap.CheckedAdd: a number goes to the containers of a set, and whether it was missing.
-/
import Derived.Test.YtgohhikcmajmoaaGreatDoorJOnb
import Derived.Test.YtgohhikcmajmoaaGreatDoorJOn3
import Derived.Test.YtgohhikcmajmoaaGreatDoorKEf
import Derived.Test.YtgohhikcmajmoaaGreatDoorKCc
import Derived.Test.YtgohhikcmajmoaaGreatDoorJKo
import Derived.Test.YtgohhikcmajmoaaGreatDoorKAoL
namespace Go.Proofs
open Go.RowKit Go.Roar
theorem ahead_ac_one (a : Addr) (w : World) : (nilAhead 303 67 (.pointer (some a)) "loop.example/pub-g03248/pub/roaring.iaddReturnMinimized").run Tryz.prog w = .ok (some false) w := by kernel_rfl
theorem method_ac_one (a : Addr) (w : World) : (method 303 67 (.pointer (some a)) "loop.example/pub-g03248/pub/roaring.iaddReturnMinimized").run Tryz.prog w = .ok (27, .pointer (some a)) w := by kernel_rfl
theorem call_ac_one (v : Value) (s : Int) (w : World) : (callFunc 27 #[v, .int .u16 s]).run Tryz.prog w = .ok (.enter 27 #[v, .int .u16 s]) w := by kernel_rfl
theorem ahead_bc_one (a : Addr) (w : World) : (nilAhead 303 83 (.pointer (some a)) "loop.example/pub-g03248/pub/roaring.iaddReturnMinimized").run Tryz.prog w = .ok (some false) w := by kernel_rfl
theorem method_bc_one (a : Addr) (w : World) : (method 303 83 (.pointer (some a)) "loop.example/pub-g03248/pub/roaring.iaddReturnMinimized").run Tryz.prog w = .ok (186, .pointer (some a)) w := by kernel_rfl
theorem call_bc_one (v : Value) (s : Int) (w : World) : (callFunc 186 #[v, .int .u16 s]).run Tryz.prog w = .ok (.enter 186 #[v, .int .u16 s]) w := by kernel_rfl
theorem ahead_rc_one (a : Addr) (w : World) : (nilAhead 303 91 (.pointer (some a)) "loop.example/pub-g03248/pub/roaring.iaddReturnMinimized").run Tryz.prog w = .ok (some false) w := by kernel_rfl
theorem method_rc_one (a : Addr) (w : World) : (method 303 91 (.pointer (some a)) "loop.example/pub-g03248/pub/roaring.iaddReturnMinimized").run Tryz.prog w = .ok (246, .pointer (some a)) w := by kernel_rfl
theorem call_rc_one (v : Value) (s : Int) (w : World) : (callFunc 246 #[v, .int .u16 s]).run Tryz.prog w = .ok (.enter 246 #[v, .int .u16 s]) w := by kernel_rfl
theorem call_ac_card (v : Value) (w : World) : (callFunc 59 #[v]).run Tryz.prog w = .ok (.enter 59 #[v]) w := by kernel_rfl
theorem call_bc_card (v : Value) (w : World) : (callFunc 179 #[v]).run Tryz.prog w = .ok (.enter 179 #[v]) w := by kernel_rfl
theorem call_rc_card (v : Value) (w : World) : (callFunc 54 #[v]).run Tryz.prog w = .ok (.enter 54 #[v]) w := by kernel_rfl
/-- The method iaddReturnMinimized of a container. -/
theorem kc_one {c : Value} {l : List Nat} {k : Nat} {L : List HA} (h : KC c l k L) (hfew : (runsOf l).length ≤ 900) : ∃ (tt : TypeId) (a : Addr) (fn : Nat), c = .iface tt (.pointer (some a)) ∧
    (∀ w, (nilAhead 303 tt (.pointer (some a)) "loop.example/pub-g03248/pub/roaring.iaddReturnMinimized").run Tryz.prog w = .ok (some false) w) ∧
    (∀ w, (method 303 tt (.pointer (some a)) "loop.example/pub-g03248/pub/roaring.iaddReturnMinimized").run Tryz.prog w = .ok (fn, .pointer (some a)) w) ∧
    (∀ (s : Int) (w : World), (callFunc fn #[.pointer (some a), .int .u16 s]).run Tryz.prog w = .ok (.enter fn #[.pointer (some a), .int .u16 s]) w) ∧
    ∀ (x : Nat) (w : World), x < 65536 → Parts w L → Calls Tryz.prog fn #[.pointer (some a), .int .u16 (x : Int)] w fun ed w' => AddPost l x (x + 1) (foot L) w ed w' := by
  cases h with
  | arr p v _ hs hb h0 hn => exact ⟨_, _, _, rfl, fun w => ahead_ac_one _ w, fun w => method_ac_one _ w, fun s w => call_ac_one _ s w, fun x w hx hp => acOne_any p v l x w hs hb hn hx hp⟩
  | bmp p g c ws _ hl hb h0 hx => exact ⟨_, _, _, rfl, fun w => ahead_bc_one _ w, fun w => method_bc_one _ w, fun s w => call_bc_one _ s w, fun x w hxx hp => bcOne_any p g c ws l x w hl hb h0 hx hxx hp⟩
  | run p v rs _ hr h0 hx => exact ⟨_, _, _, rfl, fun w => ahead_rc_one _ w, fun w => method_rc_one _ w, fun s w => call_rc_one _ s w, fun x w hxx hp => by
      rw [← hx]; exact rcMin_any p v rs x w hr h0 (by rw [← hx, runsOf_back hr] at hfew; exact hfew) hxx hp⟩
/-- The method getCardinality of a container. -/
theorem kc_card {c : Value} {l : List Nat} {k : Nat} {L : List HA} (h : KC c l k L) : ∃ (tt : TypeId) (a : Addr) (fn : Nat), c = .iface tt (.pointer (some a)) ∧
    (∀ w, (nilAhead 303 tt (.pointer (some a)) "loop.example/pub-g03248/pub/roaring.getCardinality").run Tryz.prog w = .ok (some false) w) ∧
    (∀ w, (method 303 tt (.pointer (some a)) "loop.example/pub-g03248/pub/roaring.getCardinality").run Tryz.prog w = .ok (fn, .pointer (some a)) w) ∧
    (∀ (w : World), (callFunc fn #[.pointer (some a)]).run Tryz.prog w = .ok (.enter fn #[.pointer (some a)]) w) ∧
    ∀ (w : World), Parts w L → Calls Tryz.prog fn #[.pointer (some a)] w fun ed w' => ed = .returned (.int .i64 (l.length : Int)) ∧ Mild w w' := by
  cases h with
  | arr p v _ hs hb h0 hn => exact ⟨_, _, _, rfl, fun w => ahead_acC _ w, fun w => method_acC _ w, fun w => call_ac_card _ w, fun w hp => by
      have ho : Own w 1 51 v l.length (u16s l) := hp.all (O 1 51 v l.length (u16s l)) (by simp [AC])
      have hB : Blk w p 81 [v] := hp.all (B p 81 [v]) (by simp [AC])
      obtain ⟨g, c, rfl, _, _⟩ := Own.shape ho (List.length_pos_iff.2 h0)
      exact acCardC_any p l.length c _ w (hB.cell 0)⟩
  | bmp p g c ws _ hl hb h0 hx => exact ⟨_, _, _, rfl, fun w => ahead_bcC _ w, fun w => method_bcC _ w, fun w => call_bc_card _ w, fun w hp => by
      have hB : Blk w p 108 [.int .i64 (l.length : Int), .slice (some ⟨g, 0, none⟩) 1024 c] := hp.all (B p 108 [.int .i64 (l.length : Int), .slice (some ⟨g, 0, none⟩) 1024 c]) (by simp [BC])
      exact bcCardC_any p l.length w (hB.cell 0)⟩
  | run p v rs _ hr h0 hx => exact ⟨_, _, _, rfl, fun w => ahead_rcC _ w, fun w => method_rcC _ w, fun w => call_rc_card _ w, fun w hp => by
      rw [← hx, rgNums_length]
      exact rcCard_any p v rs w hr h0 hp⟩
end Go.Proofs

namespace Go.Roar
open Go.RowKit Go.Proofs
/-- A part in the middle goes on: what stands ahead of it stays. -/
theorem SS.mid {w0 w1 w2 : World} {F : List Nat} {L R M R' : List HA} (h : SS w0 F w1 (L ++ (R ++ M))) (k : SS w1 (foot R) w2 R') : Parts w2 L := by
  have p : (L ++ (R ++ M)).Perm (R ++ (L ++ M)) := by
    rw [← List.append_assoc, ← List.append_assoc]
    exact List.Perm.append_right M List.perm_append_comm
  exact Parts.left (Parts.right ((h.perm p).frame k).sep)
theorem nil_arr {w0 w : World} {F : List Nat} {p : Nat} {L : List HA} (h : SS w0 F w (B p 81 [.slice none 0 0] :: L)) : SS w0 F w (AC p (.slice none 0 0) [] ++ L) := by
  have h1 : SS w0 F w (O 1 51 (.slice none 0 0) 0 [] :: B p 81 [.slice none 0 0] :: L) := by
    refine ⟨⟨fun A hA => ?_, ?_⟩, fun b hb => h.sub b ?_, h.kept⟩
    · rcases List.mem_cons.1 hA with rfl | hA
      · exact ⟨rfl, .inl ⟨rfl, rfl⟩⟩
      · exact h.sep.all A hA
    · exact h.sep.nd
    · exact hb
  exact h1.swap
theorem bmp_ins2 {w0 w1 w2 : World} {F : List Nat} {p : Nat} {t : TypeId} {vk vc vw vk' vc' vw' : Value} {q : List Kon} {i : Nat} {y : Kon} {L : List HA} (hF : y.F = foot L) (hK : KC y.v y.l y.k L) (h : SS w0 F w1 (L ++ BMP p t vk vc vw q))
    (h2 : SS w1 (foot (RAL p t vk vc vw (q.map (·.key)) (q.map (·.v)))) w2 (RAL p t vk' vc' vw' (ins (q.map (·.key)) i y.key) (ins (q.map (·.v)) i y.v))) :
    SS w0 F w2 (BMP p t vk' vc' vw' (insAt q i y)) := by
  have h3 := (SS.shutK hK h).perm List.perm_middle.symm
  have h4 := h3.frame h2
  have h5 := (h4.perm List.perm_middle)
  rw [← hF] at h5
  have h6 := h5.perm (KAs_ins q i y _)
  have e1 : (insAt q i y).map (·.key) = ins (q.map (·.key)) i y.key := by simp [insAt, ins, List.map_take, List.map_drop]
  have e2 : (insAt q i y).map (·.v) = ins (q.map (·.v)) i y.v := by simp [insAt, ins, List.map_take, List.map_drop]
  unfold BMP
  rw [e1, e2]
  exact h6
theorem no_key {ps : List (Nat × List Nat)} {x : Nat} (h : OKP ps) (hno : (ps.map (·.1))[lb (ps.map (·.1)) (x / 65536)]? ≠ some (x / 65536)) : x ∉ allN ps := by
  intro hx
  obtain ⟨q, hq, hk, _⟩ := (allN_mem (fun p hp => (h.2 p hp).2.2.1) x).1 hx
  exact hno ((mem_lb h.keys).1 (by rw [hk]; exact List.mem_map.2 ⟨q, hq, rfl⟩))
theorem free_key {l : List Nat} {h : Nat} (hs : Rising l) (hb : ∀ x ∈ l, x < 65536) (hh : h < 65536) (hc : l[lb l h]? ≠ some h) : l.length < 65536 := by
  rcases Nat.lt_or_ge l.length 65536 with h' | h'
  · exact h'
  · exfalso
    apply hc
    have hmem : h ∈ l := by
      refine Decidable.byContradiction fun hno => ?_
      have h1 := sorted_sub hs ((List.pairwise_lt_range' (s := 0) (n := 65536)).filter (fun x => decide (x ≠ h))) (fun x hx => by
        rw [List.mem_filter, List.mem_range'_1]
        have := hb x hx
        exact ⟨by omega, by simp; rintro rfl; exact hno hx⟩)
      have h2 : ((List.range' 0 65536).filter (fun x => decide (x ≠ h))).length < (List.range' 0 65536).length := List.length_filter_lt_length_iff_exists.2 ⟨h, by rw [List.mem_range'_1]; omega, by simp⟩
      rw [List.length_range'] at h2
      omega
    obtain ⟨j, hj⟩ := List.getElem?_of_mem hmem
    rw [(bsOf_at hs hj).2]
    exact hj
end Go.Roar
namespace Go.Proofs
open Go.RowKit Go.Roar
theorem insertC_int (p : Nat) (t : TypeId) (vk vc vw : Value) (ks : List Nat) (cs : List Value) (i key : Nat) (I J : Int) (ct : TypeId) (cv : Value) (w : World) (hI : I = (i : Int)) (hJ : J = (key : Int)) (hi : i ≤ ks.length) (hlen : ks.length < 65536) (hone : ∀ v ∈ cs, v.oneCell' = true)
    (h : Parts w (RAL p t vk vc vw ks cs)) :
    Calls Tryz.prog 26 #[.pointer (some ⟨p, 0, none⟩), .int .i64 I, .int .u16 J, .iface ct cv] w fun e w' => e = .returned (.tuple #[]) ∧
      ∃ vk' vc' vw', SS w (foot (RAL p t vk vc vw ks cs)) w' (RAL p t vk' vc' vw' (ins ks i key) (ins cs i (.iface ct cv))) := by
  subst hI hJ; exact insert_any p t vk vc vw ks cs i key ct cv w hi hlen hone h

set_option maxRecDepth 100000 in
set_option maxHeartbeats 8000000 in
theorem checkedAdd_any (p : Nat) (t : TypeId) (vk vc vw : Value) (q : List Kon) (x : Nat) (w : World) (hx : x < 4294967296) (ok : OKP (psOf q)) (few : FewRuns (psOf q) 900) (h : Parts w (BMP p t vk vc vw q)) :
    Calls Tryz.prog 13 #[.pointer (some ⟨p, 0, none⟩), .int .u32 (x : Int)] w fun ed w' => ed = .returned (.bool (decide (x ∉ allN (psOf q)))) ∧ ∃ vk' vc' vw' q', SS w (foot (BMP p t vk vc vw q)) w' (BMP p t vk' vc' vw' q') ∧ OKP (psOf q') ∧
      ∀ y, y ∈ allN (psOf q') ↔ y ∈ allN (psOf q) ∨ y = x := by
  have S0 := SS.init h
  generalize foot (BMP p t vk vc vw q) = F at *
  obtain ⟨hb, hhb⟩ : ∃ hb, hb = x / 65536 := ⟨_, rfl⟩
  obtain ⟨lx, hlx⟩ : ∃ lx, lx = x % 65536 := ⟨_, rfl⟩
  have hb1 : hb < 65536 := by omega
  have hl1 : lx < 65536 := by omega
  have CH := Lib.hid (show Calls Tryz.prog 20 #[.int .u32 (x : Int)] w fun ed w' => ed = .returned (.int .u16 (hb : Int)) ∧ w = w' from by rw [hhb]; exact high_any x w hx)
  have CL := Lib.hid (show ∀ W : World, Calls Tryz.prog 23 #[.int .u32 (x : Int)] W fun ed w' => ed = .returned (.int .u16 (lx : Int)) ∧ W = w' from fun W => by rw [hlx]; exact low_any x W hx)
  have hkeys := ok.keys
  rw [psOf_keys] at hkeys
  have hkb : ∀ y ∈ q.map (·.key), y < 65536 := fun y hy => by
    obtain ⟨z, hz, rfl⟩ := List.mem_map.1 hy
    exact (ok.2 (z.key, z.l) (List.mem_map.2 ⟨z, hz, rfl⟩)).1
  have hql : (q.map (·.key)).length ≤ 65536 := sorted_count hkeys 65536 hkb
  have hlb := lb_le (q.map (·.key)) hb
  have hRA : RA w p vk vc vw (q.map (·.key)) (q.map (·.v)) := RA.of (Parts.left S0.sep)
  have GI := Lib.hid (getIndex_any p vk vc vw (q.map (·.key)) (q.map (·.v)) hb w hkeys hkb hql hb1 hRA)
  obtain ⟨i, hi⟩ : ∃ i, i = lb (q.map (·.key)) hb := ⟨_, rfl⟩
  rw [← hi] at hlb
  have Hi := Lib.hid hi
  have Hok := Lib.hid ok
  have HS0 := Lib.hid S0
  have Hhb := Lib.hid hhb
  have Hlx := Lib.hid hlx
  by_cases hc : (q.map (·.key))[lb (q.map (·.key)) hb]? = some hb
  · have hbs : bsOf (q.map (·.key)) hb = (i : Int) := by unfold bsOf; rw [if_pos hc, hi]
    rw [hbs] at GI
    rw [← hi, List.getElem?_map] at hc
    obtain ⟨z, hz, hzk⟩ := Option.map_eq_some_iff.1 hc
    have hil : i < (q.map (·.key)).length := by have := (List.getElem?_eq_some_iff.1 hz).1; simpa using this
    have GW := Lib.hid (getWritable_any p vk vc vw (q.map (·.key)) (q.map (·.v)) i z.v w hil (by rw [List.getElem?_map, hz]; rfl) hRA)
    obtain ⟨L, hK, hS⟩ := bmp_open S0 hz
    have hfz : (runsOf z.l).length ≤ 900 := few (z.key, z.l) (List.mem_map.2 ⟨z, List.mem_of_getElem? hz, rfl⟩)
    obtain ⟨tt, ad, fn, hv, n1, n2, n3, hAD⟩ := kc_one hK hfz
    obtain ⟨tt', ad', fc, hv', m1, m2, m3, hCD⟩ := kc_card hK
    have hsz := (KC.plain hK).1
    have hlen0 : z.l.length ≤ 65536 := sorted_count hsz 65536 (KC.plain hK).2.1
    rw [hv] at hv'
    simp only [Value.iface.injEq, Value.pointer.injEq, Option.some.injEq] at hv'
    obtain ⟨rfl, rfl⟩ := hv'
    have AD := Lib.hid (fun (W : World) (hP : Parts W L) => hAD lx W hl1 hP)
    have CD := Lib.hid (hCD w hS.left.sep)
    have HS := Lib.hid hS
    have Hz := Lib.hid hz
    have Hzk := Lib.hid hzk
    have Hmore := Lib.hid (addS_one_more (x := lx) hsz)
    have Hlen := Lib.hid (show (addS z.l lx (lx + 1)).length ≤ 65536 from sorted_count (addS_sorted hsz (Nat.le_succ lx)) 65536 (addS_lt (KC.plain hK).2.1 (Nat.le_succ lx) (by omega)))
    rw [hv] at GW
    have SC := Lib.hid (fun (ct : TypeId) (cv : Value) (W : World) (hP : Parts W (RAL p t vk vc vw (q.map (·.key)) (q.map (·.v)))) => setContainer_ss p t vk vc vw (q.map (·.key)) (q.map (·.v)) i ct cv W hil hP)
    clear hc hz hzk hK hS hAD hCD hv hbs hkeys hkb hi hRA ok few h S0 hhb hlx hfz hsz
    generalize (q.map (·.key)).length = nk at *
    generalize z.l.length = n0 at *
    generalize hn4 : (addS z.l lx (lx + 1)).length = n4 at *
    have Hn4 := Lib.hid hn4
    clear hn4
    have i3 : (0 : Int) ≤ (i : Int) := by omega
    go_enter Tryz.func13, Tryz.ntmps13
    go_upto_region 6 with (first
      | (go_at_call 20; refine CH.out.mono ?_; rintro ed w1 ⟨rfl, rfl⟩)
      | (go_at_call 21; refine GI.out.mono ?_; rintro ed w1 ⟨rfl, rfl⟩)
      | (go_at_call 22; refine GW.out.mono ?_; rintro ed w1 ⟨rfl, rfl⟩)
      | ((with_reducible refine CD.out.mono ?_); rintro ed w2 ⟨rfl, k2⟩; have HS2 := Lib.hid (HS.out.quiet k2); clear k2)
      | fail)
    go_region_held3 (fun _ => True) (first | trivial) (first
      | (go_at_call 23; (with_reducible refine (CL.out _).mono ?_); rintro ed w3 ⟨rfl, rfl⟩; have hT1 := True.intro)
      | ((with_reducible refine (AD.out _ HS2.out.drew.left.sep).mono ?_); rintro ed w4 ⟨t4, v4, k4, L4, rfl, hK4, hS4⟩; have HK4 := Lib.hid hK4; have S4 := Lib.hid (HS2.out.drew.frame hS4); have S5 := Lib.hid (S4.out.right); obtain ⟨tt5, ad5, fd, hv5, o1, o2, o3, hCD5⟩ := kc_card hK4; simp only [Value.iface.injEq] at hv5; obtain ⟨rfl, rfl⟩ := hv5; rw [Hn4.out] at hCD5; have CD5 := Lib.hid hCD5; clear hK4 hS4 hCD5; have hT2 := True.intro)
      | fail)
    all_goals
      go_wp2_with (first
        | (go_at_call 24; refine (SC.out _ _ _ S5.out.sep.left).mono ?_; rintro ed w5 ⟨rfl, hS6⟩; have HS6 := Lib.hid hS6; have HP6 := Lib.hid (SS.mid S4.out hS6); clear hS6)
        | ((with_reducible refine (CD5.out _ HP6.out).mono ?_); rintro ed w6 ⟨rfl, k6⟩; have K6 := Lib.hid k6; clear k6)
        | fail)
      go_ret
      have hB := bmp_shut (y := ⟨z.key, .iface t4 (.pointer (some ad5)), addS z.l lx (lx + 1), k4, foot L4⟩) Hz.out rfl rfl HK4.out S4.out HS6.out
      have hpz := psOf_at Hz.out
      have e : psOf (q.set i ⟨z.key, .iface t4 (.pointer (some ad5)), addS z.l lx (lx + 1), k4, foot L4⟩) = (psOf q).set i (z.key, addS z.l lx (lx + 1)) := psOf_set _ _ _
      rw [Hzk.out, Hhb.out] at hpz
      obtain ⟨o1', o2'⟩ := one_set Hok.out hpz
      have hin := one_in Hok.out hpz
      rw [← Hhb.out, ← Hlx.out, ← Hzk.out] at o1' o2'
      rw [← Hlx.out] at hin
      have hm2 := Hmore.out
      rw [decide_eq_decide] at hm2
      have hres : decide (n0 < n4) = decide (x ∉ allN (psOf q)) := by
        rw [decide_eq_decide, hin, ← hm2]
      exact ⟨by show Ending.returned (Value.bool (decide (n0 < n4))) = _; rw [hres], vk, vc, vw, _, hB.quiet K6.out, by rw [e]; exact o1', fun y => by rw [e]; exact o2' y⟩
  · have hbs : bsOf (q.map (·.key)) hb = - ((i : Int) + 1) := by unfold bsOf; rw [if_neg hc, hi]
    rw [hbs] at GI
    have hlen := free_key hkeys hkb hb1 hc
    have NA := Lib.hid (fun (W : World) => newArr_any W)
    have AO := Lib.hid (fun (P : Nat) (W : World) (hP : Parts W (AC P (.slice none 0 0) [])) => acOne_any P (.slice none 0 0) [] lx W List.Pairwise.nil (by simp) (by simp) hl1 hP)
    have IK := Lib.hid (fun (ct : TypeId) (cv : Value) (W : World) (I J : Int) (hI : I = (i : Int)) (hJ : J = (hb : Int)) (hP : Parts W (RAL p t vk vc vw (q.map (·.key)) (q.map (·.v)))) (hone : ∀ v ∈ q.map (·.v), v.oneCell' = true) => insertC_int p t vk vc vw (q.map (·.key)) (q.map (·.v)) i hb I J ct cv W hI hJ hlb hlen hone hP)
    have hone := KAs_one (Parts.right S0.sep)
    have Hone := Lib.hid hone
    have Hc := Lib.hid hc
    have i3 : ¬ (0 : Int) ≤ - ((i : Int) + 1) := by omega
    clear hc hbs hkeys hkb hi hlen hRA ok few h S0 hhb hlx hone
    generalize (q.map (·.key)).length = nk at *
    go_enter Tryz.func13, Tryz.ntmps13
    go_upto_region 10 with (first
      | (go_at_call 20; refine CH.out.mono ?_; rintro ed w1 ⟨rfl, rfl⟩)
      | (go_at_call 21; refine GI.out.mono ?_; rintro ed w1 ⟨rfl, rfl⟩)
      | (go_at_call 25; (with_reducible refine (NA.out _).mono ?_); rintro ed w2 ⟨rfl, rfl⟩)
      | fail)
    have hN := SS.new HS0.out 81 [.slice none 0 0]
    have HN := Lib.hid (show SS w F (w.alloc (.cells #[.slice none 0 0] 81)) (AC w.heap.size (.slice none 0 0) [] ++ BMP p t vk vc vw q) from nil_arr hN)
    clear hN
    go_region_held3 (fun _ => True) (first | trivial) (first
      | (go_at_call 23; (with_reducible refine (CL.out _).mono ?_); rintro ed w3 ⟨rfl, rfl⟩; have hT1 := True.intro)
      | (go_at_call 27; (with_reducible refine (AO.out _ _ HN.out.drew.left.sep).mono ?_); rintro ed w4 ⟨t4, v4, k4, L4, rfl, hK4, hS4⟩; have HK4 := Lib.hid hK4; have S4 := Lib.hid (HN.out.drew.frame hS4); have hT2 := True.intro; clear hK4 hS4)
      | (go_at_call 26; (with_reducible refine (IK.out _ _ _ (IntKind.i64.wrap (IntKind.i64.wrap ((i : Int) + 1) - 1)) (hb : Int) (by rw [IntWalk.i64_in ((i : Int) + 1) (by omega), IntWalk.i64_in _ (by omega)]; omega) rfl S4.out.right.left.sep Hone.out).mono ?_); rintro ed w5 ⟨rfl, vk5, vc5, vw5, hS5⟩; have HS5 := Lib.hid hS5; clear hS5; have hT3 := True.intro)
      | fail)
    all_goals
      go_wp2
      go_ret
      have hl4 : addS [] lx (lx + 1) = [lx] := by simp [addS]
      have hK := HK4.out
      rw [hl4] at hK
      have hB := bmp_ins2 (y := ⟨hb, .iface t4 v4, [lx], k4, foot L4⟩) rfl hK S4.out HS5.out
      rw [Hi.out] at hB
      obtain ⟨o1, o2⟩ := one_ins (x := x) Hok.out hx (by rw [psOf_keys, ← Hhb.out]; exact Hc.out)
      have e : psOf (insAt q (lb (q.map (·.key)) hb) ⟨hb, .iface t4 v4, [lx], k4, foot L4⟩) = insAt (psOf q) (lb ((psOf q).map (·.1)) (x / 65536)) (x / 65536, [x % 65536]) := by rw [psOf_ins, psOf_keys, ← Hhb.out, ← Hlx.out]
      have hno : x ∉ allN (psOf q) := no_key Hok.out (by rw [psOf_keys, ← Hhb.out]; exact Hc.out)
      exact ⟨by rw [decide_eq_true hno]; rfl, vk5, vc5, vw5, _, hB, by rw [e]; exact o1, fun y => by rw [e]; exact o2 y⟩
end Go.Proofs
