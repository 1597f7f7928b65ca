/-
  runContainer16.Add: one number is added to runs: what stands ahead of the walks.
  runContainer16.Add: the walks where nothing is moved: the number is there, or the first, the last, the left or the right run takes it.
  runContainer16.Add: the walks where runs are appended: the number stands alone behind all runs, or ahead of them.
-/
import Derived.Test.YtgohhikcmajmoaaGreatDoorJAo
import Derived.Test.YtgohhikcmajmoaaGreatDoorKEf
import Derived.Test.YtgohhikcmajmoaaGreatDoorJAcb
namespace Go.Roar
open Go.RowKit Go.Proofs
/-- A run container whose slice is written out. -/
def RCn (p g n c : Nat) (rs : List (Nat × Nat)) : List HA := [B p 113 [.slice (some ⟨g, 0, none⟩) n c], O 2 115 (.slice (some ⟨g, 0, none⟩) n c) n (ivs rs)]
theorem RCn.eq (p g n c : Nat) {rs : List (Nat × Nat)} (h : rs.length = n) : RCn p g n c rs = RC p (.slice (some ⟨g, 0, none⟩) n c) rs := by subst h; rfl
theorem RCn.of {w : World} {p : Nat} {v : Value} {rs : List (Nat × Nat)} (h : Parts w (RC p v rs)) (h0 : rs ≠ []) : ∃ g c, v = .slice (some ⟨g, 0, none⟩) rs.length c ∧ rs.length ≤ c ∧ c ≤ maxLen := by
  have ho : Own w 2 115 v rs.length (ivs rs) := h.all (O 2 115 v rs.length (ivs rs)) (by simp [RC])
  exact Own.shape ho (List.length_pos_iff.2 h0)
theorem RCn.own {w0 w : World} {F : List Nat} {p g n c : Nat} {rs : List (Nat × Nat)} (S : SS w0 F w (RCn p g n c rs)) : Own w 2 115 (.slice (some ⟨g, 0, none⟩) n c) n (ivs rs) := S.get (A := O 2 115 (.slice (some ⟨g, 0, none⟩) n c) n (ivs rs)) (by simp [RCn])
theorem RCn.iv {w0 w : World} {F : List Nat} {p g n c : Nat} {rs : List (Nat × Nat)} (S : SS w0 F w (RCn p g n c rs)) {k : Nat} {r : Nat × Nat} (h : rs[k]? = some r) :
    (w.cell? ⟨g, k * 2, none⟩ = some (.int .u16 (r.1 : Int)) ∧ w.frozen? ⟨g, k * 2, none⟩ = false) ∧ (w.cell? ⟨g, k * 2 + 1, none⟩ = some (.int .u16 ((r.2 - r.1 : Nat) : Int)) ∧ w.frozen? ⟨g, k * 2 + 1, none⟩ = false) :=
  ⟨Own.cellAt (RCn.own S) (ivs_at h).1, Own.cellAt (RCn.own S) (ivs_at h).2⟩
theorem RCn.setB {w0 w : World} {F : List Nat} {p g n c : Nat} {rs : List (Nat × Nat)} (S : SS w0 F w (RCn p g n c rs)) {k s e : Nat} (h : rs[k]? = some (s, e)) (e' : Nat) :
    SS w0 F (w.setCell ⟨g, k * 2 + 1, none⟩ (.int .u16 ((e' - s : Nat) : Int))) (RCn p g n c (rs.set k (s, e'))) := by
  have hk := (List.getElem?_eq_some_iff.1 h).1
  have := SS.storeO (L := [B p 113 [.slice (some ⟨g, 0, none⟩) n c]]) (R := []) S (k * 2 + 1) (by rw [ivs_length]; omega) (.int .u16 ((e' - s : Nat) : Int))
  rw [ivs_setB h] at this
  exact this
theorem RCn.setA {w0 w : World} {F : List Nat} {p g n c : Nat} {rs : List (Nat × Nat)} (S : SS w0 F w (RCn p g n c rs)) {k s e : Nat} (h : rs[k]? = some (s, e)) (s' : Nat) :
    SS w0 F (w.setCell ⟨g, k * 2, none⟩ (.int .u16 (s' : Int))) (RCn p g n c (rs.set k (s', s' + (e - s)))) := by
  have hk := (List.getElem?_eq_some_iff.1 h).1
  have := SS.storeO (L := [B p 113 [.slice (some ⟨g, 0, none⟩) n c]]) (R := []) S (k * 2) (by rw [ivs_length]; omega) (.int .u16 (s' : Int))
  have e1 : (ivs rs).set (k * 2) (.int .u16 (s' : Int)) = ivs (rs.set k (s', s' + (e - s))) := by
    rw [← ivs_set (r := (s', s' + (e - s))) hk]
    obtain ⟨h1, h2⟩ := List.getElem?_eq_some_iff.1 (ivs_at h).2
    have h3 : ((ivs rs).set (k * 2) (.int .u16 (s' : Int)))[k * 2 + 1]'(by rw [List.length_set]; exact h1) = .int .u16 (((s', s' + (e - s)).2 - (s', s' + (e - s)).1 : Nat) : Int) := by
      rw [List.getElem_set_ne (by omega), h2]
      dsimp only
      rw [Nat.add_sub_cancel_left]
    rw [← h3, List.set_getElem_self]
  rw [e1] at this
  exact this
/-- What adding one number to runs leads to. -/
def OneR (rs : List (Nat × Nat)) (x p : Nat) (F : List Nat) (w : World) (ed : Ending) (w' : World) : Prop :=
  ∃ b v' m, ed = .returned (.bool b) ∧ RgOK 65536 m ∧ m ≠ [] ∧ m.length ≤ rs.length + 1 ∧ rgNums m = addS (rgNums rs) x (x + 1) ∧ SS w F w' (RC p v' m)
theorem OneR.set {rs : List (Nat × Nat)} {x p g n c k : Nat} {F : List Nat} {w w' : World} {r : Nat × Nat} {b : Bool} (hn : rs.length = n) (hk : k < n) (h : RgOK 65536 (rs.take k ++ r :: rs.drop (k + 1)) ∧ rgNums (rs.take k ++ r :: rs.drop (k + 1)) = addS (rgNums rs) x (x + 1))
    (S : SS w F w' (RCn p g n c (rs.set k r))) : OneR rs x p F w (.returned (.bool b)) w' := by
  rw [mid_set r (by omega)] at h
  rw [RCn.eq p g n c (by rw [List.length_set]; exact hn)] at S
  refine ⟨b, _, _, rfl, h.1, ?_, by rw [List.length_set]; omega, h.2, S⟩
  intro e
  have := congrArg List.length e
  rw [List.length_set, hn, List.length_nil] at this
  omega
theorem spot_one {rs : List (Nat × Nat)} {x j j' : Nat} (h : Spot16 rs 0 x j) (h' : Spot16 rs 0 x j') : j = j' := by
  rcases Nat.lt_trichotomy j j' with hlt | he | hlt
  · have hl := h'.2.1
    have hg := List.getElem?_eq_getElem (show j < rs.length by omega)
    have h1 := h'.2.2.1 j _ (Nat.zero_le _) hlt hg
    have h2 := h.2.2.2 _ hg
    omega
  · exact he
  · have hl := h.2.1
    have hg := List.getElem?_eq_getElem (show j' < rs.length by omega)
    have h1 := h.2.2.1 j' _ (Nat.zero_le _) hlt hg
    have h2 := h'.2.2.2 _ hg
    omega
/-- A new slice of one struct. -/
theorem SS.newO {w0 w : World} {F0 : List Nat} {L : List HA} (h : SS w0 F0 w L) (t : TypeId) (a b : Value) : SS w0 F0 (w.alloc (.cells #[a, b] t)) (O 2 t (.slice (some ⟨w.heap.size, 0, none⟩) 1 1) 1 [a, b] :: L) := by
  refine h.join (M := [O 2 t (.slice (some ⟨w.heap.size, 0, none⟩) 1 1) 1 [a, b]]) ⟨⟨fun A hA => ?_, by simp [O]⟩, fun b hb => ?_, (Kept.refl _ _).alloc _⟩
  · simp at hA; subst hA
    exact ⟨rfl, .inr ⟨w.heap.size, 0, [], rfl, rfl, by unfold maxLen; omega, Blk.new w t [a, b]⟩⟩
  · simp [O] at hb; subst hb; exact .inr (Nat.le_refl _)
end Go.Roar
namespace Go.Proofs
open Go.RowKit Go.Roar

set_option maxRecDepth 100000 in
set_option maxHeartbeats 1000000 in
theorem rcSearch_any (p : Nat) (rs : List (Nat × Nat)) (key : Nat) (w : World) (hR : RCV w p rs) (hr : RgOK 65536 rs) (h0 : 0 < rs.length) (hk : key ≤ 65536) (hl : rs.length ≤ 65536) :
    Calls Tryz.prog 282 #[.pointer (some ⟨p, 0, none⟩), .int .i64 (key : Int)] w fun ed w' => SPostB rs 0 key w ed w' := by
  have S := Lib.hid (show Calls Tryz.prog 283 #[.pointer (some ⟨p, 0, none⟩), .int .i64 (key : Int), .int .i64 0, .int .i64 0] w fun ed w' => SPostB rs 0 key w ed w' from searchB_any p rs key 0 w hR hr h0 hk (Nat.zero_le _) hl (fun r h => absurd h (Nat.lt_irrefl _)))
  clear hR hr
  go_enter Tryz.func282, Tryz.ntmps282
  go_wp2_with (first
    | (go_at_call 283; (with_reducible refine S.out.mono ?_); rintro ed w1 ⟨W, b, z, j, rfl, hP⟩; have HP := Lib.hid hP; clear hP)
    | fail)
  go_ret3
  exact ⟨W, b, z, j, rfl, HP.out⟩

theorem searchNo {p : Nat} {v : Value} {rs : List (Nat × Nat)} {x j : Nat} {J : Int} {w : World} (h : Parts w (RC p v rs)) (hr : RgOK 65536 rs) (h0 : rs ≠ []) (hx : x < 65536) (hj : Spot16 rs 0 x j) (hno : ∀ r : Nat × Nat, rs[j]? = some r → x < r.1) (hJ : J + 1 = (j : Int)) :
    Calls Tryz.prog 282 #[.pointer (some ⟨p, 0, none⟩), .int .i64 (x : Int)] w fun ed w' => ∃ z, ed = .returned (.tuple #[.int .i64 J, .bool false, .int .i64 z]) ∧ Mild w w' := by
  refine (rcSearch_any p rs x w (RCV.of h h0) hr (List.length_pos_iff.2 h0) (by omega) (by have := hr.many; omega)).mono ?_
  rintro ed w' ⟨W, b, z, j', rfl, h1, h2, h3, h4⟩
  obtain rfl := spot_one hj h1
  cases b
  · obtain ⟨e, _⟩ := h3 rfl
    obtain rfl : W = J := by omega
    exact ⟨z, rfl, h4⟩
  · obtain ⟨_, r, hr1, hr2⟩ := h2 rfl
    have := hno r hr1
    omega
theorem searchYes {p : Nat} {v : Value} {rs : List (Nat × Nat)} {x j : Nat} {r : Nat × Nat} {w : World} (h : Parts w (RC p v rs)) (hr : RgOK 65536 rs) (h0 : rs ≠ []) (hx : x < 65536) (hj : Spot16 rs 0 x j) (hyes : rs[j]? = some r) (hr1 : r.1 ≤ x) :
    Calls Tryz.prog 282 #[.pointer (some ⟨p, 0, none⟩), .int .i64 (x : Int)] w fun ed w' => ∃ z, ed = .returned (.tuple #[.int .i64 (j : Int), .bool true, .int .i64 z]) ∧ Mild w w' := by
  refine (rcSearch_any p rs x w (RCV.of h h0) hr (List.length_pos_iff.2 h0) (by omega) (by have := hr.many; omega)).mono ?_
  rintro ed w' ⟨W, b, z, j', rfl, h1, h2, h3, h4⟩
  obtain rfl := spot_one hj h1
  cases b
  · obtain ⟨_, hn⟩ := h3 rfl
    have := hn r hyes
    omega
  · obtain ⟨rfl, _⟩ := h2 rfl
    exact ⟨z, rfl, h4⟩
end Go.Proofs

namespace Go.Proofs
open Go.RowKit Go.Roar

set_option maxRecDepth 100000 in
set_option maxHeartbeats 1000000 in
theorem rcAdd_yes (p : Nat) (v : Value) (rs : List (Nat × Nat)) (x j : Nat) (r : Nat × Nat) (w : World) (hr : RgOK 65536 rs) (h0 : rs ≠ []) (hx : x < 65536) (h : Parts w (RC p v rs)) (hj : Spot16 rs 0 x j) (hyes : rs[j]? = some r) (hr1 : r.1 ≤ x) :
    Calls Tryz.prog 278 #[.pointer (some ⟨p, 0, none⟩), .int .u16 (x : Int)] w fun ed w' => OneR rs x p (foot (RC p v rs)) w ed w' := by
  have SE := Lib.hid (searchYes h hr h0 hx hj hyes hr1)
  have hr2 := hj.2.2.2 r hyes
  have hm : x ∈ rgNums rs := (rgNums_mem (fun q hq => (hr.1 q hq).1) x).2 ⟨r, List.mem_of_getElem? hyes, hr1, hr2⟩
  have HX := Lib.hid (addS_one_mem (rgNums_rising hr) hm)
  have S0 := Lib.hid (SS.init h)
  have HR := Lib.hid hr
  generalize foot (RC p v rs) = F at *
  clear h hj hyes hr
  go_enter Tryz.func278, Tryz.ntmps278
  go_wp2_with (first
    | (go_at_call 282; (with_reducible refine SE.out.mono ?_); rintro ed w1 ⟨z, rfl, k1⟩)
    | fail)
  go_ret
  exact ⟨false, v, rs, rfl, HR.out, h0, Nat.le_succ _, HX.out.symm, S0.out.quiet k1⟩

set_option maxRecDepth 100000 in
set_option maxHeartbeats 1000000 in
theorem rcAdd_0R (p : Nat) (v : Value) (rs : List (Nat × Nat)) (x s e : Nat) (w : World) (hr : RgOK 65536 rs) (hx : x < 65536) (h : Parts w (RC p v rs)) (h1 : rs[0]? = some (s, e)) (hs : x + 1 = s) :
    Calls Tryz.prog 278 #[.pointer (some ⟨p, 0, none⟩), .int .u16 (x : Int)] w fun ed w' => OneR rs x p (foot (RC p v rs)) w ed w' := by
  have h0 : rs ≠ [] := by rintro rfl; simp at h1
  have hse := runs_one hr h1
  simp only at hse
  have SE := Lib.hid (searchNo (J := -1) h hr h0 hx (j := 0) ⟨Nat.le_refl _, Nat.zero_le _, fun i r _ hi => by omega, fun r hq => by rw [h1] at hq; cases hq; show x ≤ e; omega⟩ (fun r hq => by rw [h1] at hq; cases hq; show x < s; omega) rfl)
  have HX := Lib.hid (add_right hr h1 hs (fun r _ h => absurd h (Nat.lt_irrefl _)))
  obtain ⟨g, c, rfl, hc1, hc2⟩ := RCn.of h h0
  have S0 := SS.init h
  have hpos : 0 < rs.length := (List.getElem?_eq_some_iff.1 h1).1
  have hmany := hr.many
  generalize hF : foot (RC p (.slice (some ⟨g, 0, none⟩) rs.length c) rs) = F at *
  rw [← RCn.eq p g rs.length c rfl] at S0
  have HS0 := Lib.hid S0
  clear hF h S0 hr
  have H1 := Lib.hid h1
  have q1 : IntKind.u16.wrap ((x : Int) + 1) = (s : Int) := by rw [IntWalk.u16_in _ (by omega)]; omega
  have q2 : IntKind.u16.wrap (((e - s : Nat) : Int) + 1) = ((x + (e - s) + 1 - x : Nat) : Int) := by rw [IntWalk.u16_in _ (by omega)]; omega
  generalize hn : rs.length = n at *
  have Hn := Lib.hid hn
  have HE := Lib.hid (show x + (e - s) + 1 = e by omega)
  have Hs := Lib.hid hs
  clear hn h1 hs hse
  go_enter Tryz.func278, Tryz.ntmps278
  go_wp2_with (first
    | (go_at_call 282; (with_reducible refine SE.out.mono ?_); rintro ed w1 ⟨z, rfl, k1⟩; have S1 := HS0.out.quiet k1; have a0 := S1.cell 0 rfl 0 rfl; have b0 := (RCn.iv S1 H1.out).1; have S2 := RCn.setA S1 H1.out x; have a1 := S2.cell 0 rfl 0 rfl; have g2 : (rs.set 0 (x, x + (e - s)))[0]? = some (x, x + (e - s)) := (List.getElem?_set_self (by rw [Hn.out]; exact hpos)); have b1 := (RCn.iv S2 g2).2; have S3 := Lib.hid (RCn.setB S2 g2 (x + (e - s) + 1)); simp only [Nat.add_sub_cancel_left] at b1; clear S1 S2 g2)
    | fail)
  go_ret
  have S4 := S3.out
  rw [List.set_set] at S4
  have hX := HX.out
  rw [← HE.out] at hX
  exact OneR.set Hn.out hpos hX S4
set_option maxRecDepth 100000 in
set_option maxHeartbeats 1000000 in
theorem rcAdd_NL (p : Nat) (v : Value) (rs : List (Nat × Nat)) (x m s e : Nat) (w : World) (hr : RgOK 65536 rs) (hx : x < 65536) (h : Parts w (RC p v rs)) (hm : m + 1 = rs.length) (h1 : rs[m]? = some (s, e)) (he : e + 1 = x) :
    Calls Tryz.prog 278 #[.pointer (some ⟨p, 0, none⟩), .int .u16 (x : Int)] w fun ed w' => OneR rs x p (foot (RC p v rs)) w ed w' := by
  have h0 : rs ≠ [] := by rintro rfl; simp at h1
  have hse := runs_one hr h1
  simp only at hse
  have SE := Lib.hid (searchNo (J := (m : Int)) h hr h0 hx (j := m + 1) ⟨Nat.zero_le _, by omega, fun i r _ hi hq => by
      rcases Nat.lt_or_ge i m with h2 | h2
      · have := runs_two hr h2 hq h1; simp only at this; omega
      · obtain rfl : i = m := by omega
        rw [h1] at hq; cases hq; show e < x; omega, fun r hq => by rw [List.getElem?_eq_none (by omega)] at hq; cases hq⟩ (fun r hq => by rw [List.getElem?_eq_none (by omega)] at hq; cases hq) (by omega))
  have HX := Lib.hid (add_left hr hx h1 he (fun r hq => by rw [List.getElem?_eq_none (by omega)] at hq; cases hq))
  have LA := Lib.hid (fun (W : World) => last_r (s, e) W hse)
  obtain ⟨g, c, rfl, hc1, hc2⟩ := RCn.of h h0
  have S0 := SS.init h
  have hmany := hr.many
  generalize hF : foot (RC p (.slice (some ⟨g, 0, none⟩) rs.length c) rs) = F at *
  rw [← RCn.eq p g rs.length c rfl] at S0
  have HS0 := Lib.hid S0
  clear hF h S0 hr
  have H1 := Lib.hid h1
  have q2 : IntKind.u16.wrap (((e - s : Nat) : Int) + 1) = ((x - s : Nat) : Int) := by rw [IntWalk.u16_in _ (by omega)]; omega
  generalize hn : rs.length = n at *
  have Hn := Lib.hid hn
  have e1 : (n : Int) - 1 = (m : Int) := by omega
  have i1 : ((m : Int) == -1) = false := by rw [beq_eq_false_iff_ne]; omega
  have i2 : ¬ (m : Int) = -1 := by omega
  have i3 : (m : Int) < (n : Int) := by omega
  have i4 : (e : Int) + 1 = (x : Int) := by omega
  have hk : m < n := by omega
  clear hn h1 hse he hm
  go_enter Tryz.func278, Tryz.ntmps278
  go_wp2_with (first
    | (go_at_call 282; (with_reducible refine SE.out.mono ?_); rintro ed w1 ⟨z, rfl, k1⟩; have S1 := HS0.out.quiet k1; have a0 := S1.cell 0 rfl 0 rfl; have b0 := (RCn.iv S1 H1.out).1.1; have b1 := (RCn.iv S1 H1.out).2.1; have HS1 := Lib.hid S1; clear S1)
    | (go_at_call 63; (with_reducible refine (LA.out _).mono ?_); rintro ed w2 ⟨rfl, k2⟩; have S2 := HS1.out.quiet k2; have c0 := S2.cell 0 rfl 0 rfl; have d1 := (RCn.iv S2 H1.out).2; have S3 := Lib.hid (RCn.setB S2 H1.out x); clear S2)
    | fail)
  go_ret
  exact OneR.set Hn.out hk HX.out S3.out

set_option maxRecDepth 100000 in
set_option maxHeartbeats 1000000 in
theorem rcAdd_ML (p : Nat) (v : Value) (rs : List (Nat × Nat)) (x m s e s2 e2 : Nat) (w : World) (hr : RgOK 65536 rs) (hx : x < 65536) (h : Parts w (RC p v rs)) (h1 : rs[m]? = some (s, e)) (h2 : rs[m + 1]? = some (s2, e2)) (he : e + 1 = x) (hs2 : x + 1 < s2) :
    Calls Tryz.prog 278 #[.pointer (some ⟨p, 0, none⟩), .int .u16 (x : Int)] w fun ed w' => OneR rs x p (foot (RC p v rs)) w ed w' := by
  have h0 : rs ≠ [] := by rintro rfl; simp at h1
  have hse := runs_one hr h1
  have hse2 := runs_one hr h2
  simp only at hse hse2
  have hk2 := (List.getElem?_eq_some_iff.1 h2).1
  have SE := Lib.hid (searchNo (J := (m : Int)) h hr h0 hx (j := m + 1) ⟨Nat.zero_le _, by omega, fun i r _ hi hq => by
      rcases Nat.lt_or_ge i m with h3 | h3
      · have := runs_two hr h3 hq h1; simp only at this; omega
      · obtain rfl : i = m := by omega
        rw [h1] at hq; cases hq; show e < x; omega, fun r hq => by rw [h2] at hq; cases hq; show x ≤ e2; omega⟩ (fun r hq => by rw [h2] at hq; cases hq; show x < s2; omega) (by omega))
  have HX := Lib.hid (add_left hr hx h1 he (fun r hq => by rw [h2] at hq; cases hq; exact hs2))
  have LA := Lib.hid (fun (W : World) => last_r (s, e) W hse)
  obtain ⟨g, c, rfl, hc1, hc2⟩ := RCn.of h h0
  have S0 := SS.init h
  have hmany := hr.many
  generalize hF : foot (RC p (.slice (some ⟨g, 0, none⟩) rs.length c) rs) = F at *
  rw [← RCn.eq p g rs.length c rfl] at S0
  have HS0 := Lib.hid S0
  clear hF h S0 hr
  have H1 := Lib.hid h1
  have H2 := Lib.hid h2
  have q2 : IntKind.u16.wrap (((e - s : Nat) : Int) + 1) = ((x - s : Nat) : Int) := by rw [IntWalk.u16_in _ (by omega)]; omega
  generalize hn : rs.length = n at *
  have Hn := Lib.hid hn
  obtain ⟨j, hj⟩ : ∃ j, j = m + 1 := ⟨_, rfl⟩
  have e1 : (m : Int) + 1 = (j : Int) := by omega
  have i1 : ((m : Int) == -1) = false := by rw [beq_eq_false_iff_ne]; omega
  have i2 : ¬ (m : Int) = -1 := by omega
  have i3 : (m : Int) < (n : Int) := by omega
  have i5 : (j : Int) < (n : Int) := by omega
  have i6 : ¬ ((n : Int) - 1 ≤ (m : Int)) := by omega
  have i4 : (e : Int) + 1 = (x : Int) := by omega
  have i7 : ((s2 : Int) == (x : Int) + 1) = false := by rw [beq_eq_false_iff_ne]; omega
  have i8 : ¬ (s2 : Int) = (x : Int) + 1 := by omega
  have hk : m < n := by omega
  have y1 : s2 < 65536 := by omega
  have y2 : e < 65536 := by omega
  rw [← hj] at H2
  clear hn h1 hse he h2 hse2 hs2 hj hk2
  go_enter Tryz.func278, Tryz.ntmps278
  go_wp2_with (first
    | (go_at_call 282; (with_reducible refine SE.out.mono ?_); rintro ed w1 ⟨z, rfl, k1⟩; have S1 := HS0.out.quiet k1; have a0 := S1.cell 0 rfl 0 rfl; have b0 := (RCn.iv S1 H1.out).1.1; have b1 := (RCn.iv S1 H1.out).2.1; have HS1 := Lib.hid S1; clear S1)
    | (go_at_call 63; (with_reducible refine (LA.out _).mono ?_); rintro ed w2 ⟨rfl, k2⟩; have S2 := HS1.out.quiet k2; have c0 := S2.cell 0 rfl 0 rfl; have d0 := (RCn.iv S2 H1.out).1.1; have d1 := (RCn.iv S2 H1.out).2.1; have d2 := (RCn.iv S2 H2.out).1.1; have HS2 := Lib.hid S2; clear S2 HS1)
    | (go_at_call 63; (with_reducible refine (LA.out _).mono ?_); rintro ed w3 ⟨rfl, k3⟩; have S3 := HS2.out.quiet k3; have f0 := S3.cell 0 rfl 0 rfl; have f1 := (RCn.iv S3 H1.out).2; have S4 := Lib.hid (RCn.setB S3 H1.out x); clear S3)
    | fail)
  go_ret
  exact OneR.set Hn.out hk HX.out S4.out

set_option maxRecDepth 100000 in
set_option maxHeartbeats 1000000 in
theorem rcAdd_MR (p : Nat) (v : Value) (rs : List (Nat × Nat)) (x m s e s2 e2 : Nat) (w : World) (hr : RgOK 65536 rs) (hx : x < 65536) (h : Parts w (RC p v rs)) (h1 : rs[m]? = some (s, e)) (h2 : rs[m + 1]? = some (s2, e2)) (he : e + 1 < x) (hs2 : x + 1 = s2) :
    Calls Tryz.prog 278 #[.pointer (some ⟨p, 0, none⟩), .int .u16 (x : Int)] w fun ed w' => OneR rs x p (foot (RC p v rs)) w ed w' := by
  have h0 : rs ≠ [] := by rintro rfl; simp at h1
  have hse := runs_one hr h1
  have hse2 := runs_one hr h2
  simp only at hse hse2
  have hk2 := (List.getElem?_eq_some_iff.1 h2).1
  have SE := Lib.hid (searchNo (J := (m : Int)) h hr h0 hx (j := m + 1) ⟨Nat.zero_le _, by omega, fun i r _ hi hq => by
      rcases Nat.lt_or_ge i m with h3 | h3
      · have := runs_two hr h3 hq h1; simp only at this; omega
      · obtain rfl : i = m := by omega
        rw [h1] at hq; cases hq; show e < x; omega, fun r hq => by rw [h2] at hq; cases hq; show x ≤ e2; omega⟩ (fun r hq => by rw [h2] at hq; cases hq; show x < s2; omega) (by omega))
  have HX := Lib.hid (add_right hr h2 hs2 (fun r hq _ => by rw [Nat.add_sub_cancel, h1] at hq; cases hq; exact he))
  have LA := Lib.hid (fun (W : World) => last_r (s, e) W hse)
  obtain ⟨g, c, rfl, hc1, hc2⟩ := RCn.of h h0
  have S0 := SS.init h
  have hmany := hr.many
  generalize hF : foot (RC p (.slice (some ⟨g, 0, none⟩) rs.length c) rs) = F at *
  rw [← RCn.eq p g rs.length c rfl] at S0
  have HS0 := Lib.hid S0
  clear hF h S0 hr
  have H1 := Lib.hid h1
  have H2 := Lib.hid h2
  have q2 : IntKind.u16.wrap (((e2 - s2 : Nat) : Int) + 1) = ((x + (e2 - s2) + 1 - x : Nat) : Int) := by rw [IntWalk.u16_in _ (by omega)]; omega
  have HE := Lib.hid (show x + (e2 - s2) + 1 = e2 by omega)
  generalize hn : rs.length = n at *
  have Hn := Lib.hid hn
  obtain ⟨j, hj⟩ : ∃ j, j = m + 1 := ⟨_, rfl⟩
  have e1 : (m : Int) + 1 = (j : Int) := by omega
  have i1 : ((m : Int) == -1) = false := by rw [beq_eq_false_iff_ne]; omega
  have i2 : ¬ (m : Int) = -1 := by omega
  have i3 : (m : Int) < (n : Int) := by omega
  have i5 : (j : Int) < (n : Int) := by omega
  have i6 : ¬ ((n : Int) - 1 ≤ (m : Int)) := by omega
  have i4 : ((e : Int) + 1 == (x : Int)) = false := by rw [beq_eq_false_iff_ne]; omega
  have i9 : ¬ (e : Int) + 1 = (x : Int) := by omega
  have i7 : (s2 : Int) = (x : Int) + 1 := by omega
  have hk : j < n := by omega
  have y1 : s2 < 65536 := by omega
  have y2 : e < 65536 := by omega
  rw [← hj] at H2 HX
  have g2 : Hid ((rs.set j (x, x + (e2 - s2)))[j]? = some (x, x + (e2 - s2))) := Lib.hid (List.getElem?_set_self (by rw [hn]; exact hk))
  have I7 := Lib.hid i7
  clear hn h1 hse he h2 hse2 hs2 hj hk2 i7
  have i8 : ((s2 : Int) == (x : Int) + 1) = true := by rw [beq_iff_eq]; exact I7.out
  go_enter Tryz.func278, Tryz.ntmps278
  go_wp2_with (first
    | (go_at_call 282; (with_reducible refine SE.out.mono ?_); rintro ed w1 ⟨z, rfl, k1⟩; have S1 := HS0.out.quiet k1; have a0 := S1.cell 0 rfl 0 rfl; have b0 := (RCn.iv S1 H1.out).1.1; have b1 := (RCn.iv S1 H1.out).2.1; have HS1 := Lib.hid S1; clear S1)
    | (go_at_call 63; (with_reducible refine (LA.out _).mono ?_); rintro ed w2 ⟨rfl, k2⟩; have S2 := HS1.out.quiet k2; have c0 := S2.cell 0 rfl 0 rfl; have d0 := (RCn.iv S2 H1.out).1.1; have d1 := (RCn.iv S2 H1.out).2.1; have HS2 := Lib.hid S2; clear S2 HS1)
    | (go_at_call 63; (with_reducible refine (LA.out _).mono ?_); rintro ed w3 ⟨rfl, k3⟩; have S3 := HS2.out.quiet k3; have f0 := S3.cell 0 rfl 0 rfl; have f1 := (RCn.iv S3 H2.out).1; have S4 := RCn.setA S3 H2.out x; have f2 := S4.cell 0 rfl 0 rfl; have f3 := (RCn.iv S4 g2.out).2; have S5 := Lib.hid (RCn.setB S4 g2.out (x + (e2 - s2) + 1)); simp only [Nat.add_sub_cancel_left] at f3; clear S3 S4)
    | fail)
  go_ret
  have S6 := S5.out
  rw [List.set_set] at S6
  have hX := HX.out
  rw [← HE.out] at hX
  exact OneR.set Hn.out hk hX S6
end Go.Proofs

namespace Go.Roar
open Go.RowKit Go.Proofs
theorem OneR.done {rs m : List (Nat × Nat)} {x p g n c : Nat} {F : List Nat} {w w' : World} {b : Bool} (hn : m.length = n) (h0 : 0 < n) (hm : n ≤ rs.length + 1) (h : RgOK 65536 m ∧ rgNums m = addS (rgNums rs) x (x + 1))
    (S : SS w F w' (RCn p g n c m)) : OneR rs x p F w (.returned (.bool b)) w' := by
  rw [RCn.eq p g n c hn] at S
  refine ⟨b, _, _, rfl, h.1, ?_, by omega, h.2, S⟩
  rintro rfl
  simp at hn; omega
end Go.Roar
namespace Go.Proofs
open Go.RowKit Go.Roar
theorem newOne_any (x : Nat) (w : World) (hx : x < 65536) : Calls Tryz.prog 51 #[.int .u16 (x : Int), .int .u16 (x : Int)] w fun ed w' => ed = .returned (.agg #[.int .u16 (x : Int), .int .u16 0]) ∧ Mild w w' := by
  have := newInterval_any x x w (Nat.le_refl x) hx
  rw [Nat.sub_self] at this
  exact this
attribute [local go_sem ↓] Go.wp_at_zero Go.wp_at_succ

set_option maxRecDepth 100000 in
set_option maxHeartbeats 2000000 in
theorem rcAdd_NA (p : Nat) (v : Value) (rs : List (Nat × Nat)) (x m s e : Nat) (w : World) (hr : RgOK 65536 rs) (hx : x < 65536) (h : Parts w (RC p v rs)) (hm : m + 1 = rs.length) (h1 : rs[m]? = some (s, e)) (he : e + 1 < x) :
    Calls Tryz.prog 278 #[.pointer (some ⟨p, 0, none⟩), .int .u16 (x : Int)] w fun ed w' => OneR rs x p (foot (RC p v rs)) w ed w' := by
  obtain ⟨iU, zv1, zv2, zv3, zv4⟩ := info_parts infoIv
  have h0 : rs ≠ [] := by rintro rfl; simp at h1
  have hse := runs_one hr h1
  simp only at hse
  have SE := Lib.hid (searchNo (J := (m : Int)) h hr h0 hx (j := m + 1) ⟨Nat.zero_le _, by omega, fun i r _ hi hq => by
      rcases Nat.lt_or_ge i m with h2 | h2
      · have := runs_two hr h2 hq h1; simp only at this; omega
      · obtain rfl : i = m := by omega
        rw [h1] at hq; cases hq; show e < x; omega, fun r hq => by rw [List.getElem?_eq_none (by omega)] at hq; cases hq⟩ (fun r hq => by rw [List.getElem?_eq_none (by omega)] at hq; cases hq) (by omega))
  have HX := Lib.hid (add_alone (k := m + 1) hr (by omega) hx (fun r hq _ => by rw [Nat.add_sub_cancel, h1] at hq; cases hq; exact he) (fun r hq => by rw [List.getElem?_eq_none (by omega)] at hq; cases hq))
  have LA := Lib.hid (fun (W : World) => last_r (s, e) W hse)
  have NI := Lib.hid (fun (W : World) => newOne_any x W hx)
  obtain ⟨g, c, rfl, hc1, hc2⟩ := RCn.of h h0
  have S0 := SS.init h
  have hmany := hr.many
  generalize hF : foot (RC p (.slice (some ⟨g, 0, none⟩) rs.length c) rs) = F at *
  rw [← RCn.eq p g rs.length c rfl] at S0
  have HS0 := Lib.hid S0
  clear hF h S0 hr
  have H1 := Lib.hid h1
  generalize hn : rs.length = n at *
  have Hn := Lib.hid hn
  have Hm := Lib.hid hm
  have e1 : (n : Int) - 1 = (m : Int) := by omega
  have i1 : ((m : Int) == -1) = false := by rw [beq_eq_false_iff_ne]; omega
  have i2 : ¬ (m : Int) = -1 := by omega
  have i3 : (m : Int) < (n : Int) := by omega
  have i4 : ((e : Int) + 1 == (x : Int)) = false := by rw [beq_eq_false_iff_ne]; omega
  have i9 : ¬ (e : Int) + 1 = (x : Int) := by omega
  have y2 : e < 65536 := by omega
  clear hn h1 hse he hm
  go_enter Tryz.func278, Tryz.ntmps278
  go_upto_region 15 with (first
    | (go_at_call 282; (with_reducible refine SE.out.mono ?_); rintro ed w1 ⟨z, rfl, k1⟩; have S1 := HS0.out.quiet k1; have a0 := S1.cell 0 rfl 0 rfl; have b0 := (RCn.iv S1 H1.out).1.1; have b1 := (RCn.iv S1 H1.out).2.1; have HS1 := Lib.hid S1; clear S1)
    | (go_at_call 63; (with_reducible refine (LA.out _).mono ?_); rintro ed w2 ⟨rfl, k2⟩; have S2 := HS1.out.quiet k2; have c0 := S2.cell 0 rfl 0 rfl; have c1 := S2.free 0 rfl 0; have HS2 := Lib.hid S2; clear S2)
    | fail)
  go_region_law (first
    | (go_simp; go_at_call 51; refine (NI.out _).mono ?_; rintro ed w3 ⟨rfl, hk⟩; have S3 := HS2.out.drew.quiet hk; have f2 := S3.cell 0 rfl 0 rfl; have f3 := S3.free 0 rfl 0; have f6 := (S3.alloc (.cells #[.int .u16 (x : Int), .int .u16 0] 115)).cell 0 rfl 0 rfl; have f7 := (S3.alloc (.cells #[.int .u16 (x : Int), .int .u16 0] 115)).free 0 rfl 0)
    | (refine step_of_list rfl ?_; intro Q9 hQ9; refine wpList_append_ss rfl (.tmp 104) (.tmp 108) 111 rfl 115 iU (.agg #[.int .u16 (0 : Int), .int .u16 (0 : Int)]) 2 4 undIvs zv1 zv2 zv3 zv4 rfl (by decide) w F [B p 113 [.slice (some ⟨g, 0, none⟩) n c]] [] (.slice (some ⟨g, 0, none⟩) n c) n (ivs rs) rfl (S3.alloc _) ⟨w3.heap.size, 0, none⟩ 1 1 [.int .u16 (x : Int), .int .u16 0] rfl rfl (Blk.news (Blk.new _ _ _)) (by simp [Value.oneCell']) (by unfold maxLen; omega) (by omega) ?_; intro v4 w4 S4; refine hQ9 _ _ ?_; clear hQ9 Q9; obtain ⟨g4, c4, rfl, _, _⟩ := Own.shape (S4.get (A := O 2 115 v4 (n + 1) (ivs rs ++ [.int .u16 (x : Int), .int .u16 0])) (by simp)) (by omega); have f4 := S4.cell 0 rfl 0 rfl; have f5 := S4.free 0 rfl 0))
  all_goals (have S5 := SS.store (L := []) S4 0 (.slice (some ⟨g4, 0, none⟩) (n + 1) c4); go_wp2)
  all_goals go_ret
  all_goals
    have hm := Hm.out
    have hX := HX.out
    rw [hm, ← Hn.out, List.take_length, List.drop_length] at hX
    have e6 : ivs rs ++ [.int .u16 (x : Int), .int .u16 0] = ivs (rs ++ [(x, x)]) := by rw [ivs_app]; simp [ivs]
    rw [List.nil_append, e6] at S5
    exact OneR.done (by simp [Hn.out]) (Nat.succ_pos _) (by rw [Hn.out]; exact Nat.le_refl _) hX S5
set_option maxRecDepth 100000 in
set_option maxHeartbeats 2000000 in
theorem rcAdd_0A (p : Nat) (v : Value) (rs : List (Nat × Nat)) (x s e : Nat) (w : World) (hr : RgOK 65536 rs) (hx : x < 65536) (h : Parts w (RC p v rs)) (h1 : rs[0]? = some (s, e)) (hs : x + 1 < s) :
    Calls Tryz.prog 278 #[.pointer (some ⟨p, 0, none⟩), .int .u16 (x : Int)] w fun ed w' => OneR rs x p (foot (RC p v rs)) w ed w' := by
  obtain ⟨iU, zv1, zv2, zv3, zv4⟩ := info_parts infoIv
  have h0 : rs ≠ [] := by rintro rfl; simp at h1
  have hse := runs_one hr h1
  simp only at hse
  have SE := Lib.hid (searchNo (J := -1) h hr h0 hx (j := 0) ⟨Nat.le_refl _, Nat.zero_le _, fun i r _ hi => by omega, fun r hq => by rw [h1] at hq; cases hq; show x ≤ e; omega⟩ (fun r hq => by rw [h1] at hq; cases hq; show x < s; omega) rfl)
  have HX := Lib.hid (add_alone (k := 0) hr (Nat.zero_le _) hx (fun r hq h => absurd h (Nat.lt_irrefl _)) (fun r hq => by rw [h1] at hq; cases hq; exact hs))
  have NI := Lib.hid (fun (W : World) => newOne_any x W hx)
  obtain ⟨g, c, rfl, hc1, hc2⟩ := RCn.of h h0
  have S0 := SS.init h
  have hmany := hr.many
  have hpos : 0 < rs.length := (List.getElem?_eq_some_iff.1 h1).1
  generalize hF : foot (RC p (.slice (some ⟨g, 0, none⟩) rs.length c) rs) = F at *
  rw [← RCn.eq p g rs.length c rfl] at S0
  have HS0 := Lib.hid S0
  clear hF h S0 hr
  have H1 := Lib.hid h1
  generalize hn : rs.length = n at *
  have Hn := Lib.hid hn
  have q1 : IntKind.u16.wrap ((x : Int) + 1) = (x : Int) + 1 := IntWalk.u16_in _ (by omega)
  have i4 : ((s : Int) == (x : Int) + 1) = false := by rw [beq_eq_false_iff_ne]; omega
  have i9 : ¬ (s : Int) = (x : Int) + 1 := by omega
  have i3 : (0 : Int) < (n : Int) := by omega
  clear hn h1 hse hs
  go_enter Tryz.func278, Tryz.ntmps278
  go_upto_region 11 with (first
    | (go_at_call 282; (with_reducible refine SE.out.mono ?_); rintro ed w1 ⟨z, rfl, k1⟩; have S1 := HS0.out.quiet k1; have a0 := S1.cell 0 rfl 0 rfl; have a1 := S1.free 0 rfl 0; have b0 := (RCn.iv S1 H1.out).1.1; have HS1 := Lib.hid S1; clear S1)
    | fail)
  go_region_law (first
    | (go_simp; go_at_call 51; refine (NI.out _).mono ?_; rintro ed w3 ⟨rfl, hk⟩; have S3 := HS1.out.drew.quiet hk; have f2 := S3.cell 0 rfl 0 rfl; have f3 := S3.free 0 rfl 0; have f6 := (S3.alloc (.cells #[.int .u16 (x : Int), .int .u16 0] 115)).cell 0 rfl 0 rfl; have f7 := (S3.alloc (.cells #[.int .u16 (x : Int), .int .u16 0] 115)).free 0 rfl 0; have T3 := Lib.hid (S3.newO 115 (.int .u16 (x : Int)) (.int .u16 0)))
    | (refine step_of_list rfl ?_; intro Q9 hQ9; refine wpList_append_ss rfl (.tmp 63) (.tmp 67) 111 rfl 115 iU (.agg #[.int .u16 (0 : Int), .int .u16 (0 : Int)]) 2 4 undIvs zv1 zv2 zv3 zv4 rfl (by decide) w F [] [B p 113 [.slice (some ⟨g, 0, none⟩) n c], O 2 115 (.slice (some ⟨g, 0, none⟩) n c) n (ivs rs)] (.slice (some ⟨w3.heap.size, 0, none⟩) 1 1) 1 [.int .u16 (x : Int), .int .u16 0] rfl T3.out ⟨g, 0, none⟩ n c (ivs rs) rfl (by rw [ivs_length, Hn.out]) (Own.src0 (T3.out.get (A := O 2 115 (.slice (some ⟨g, 0, none⟩) n c) n (ivs rs)) (by simp [RCn])) _ (fun _ _ h => h)) (ivs_one _) (by unfold maxLen; omega) (by omega) ?_; intro v4 w4 S4; refine hQ9 _ _ ?_; clear hQ9 Q9; obtain ⟨g4, c4, rfl, _, _⟩ := Own.shape (S4.get (A := O 2 115 v4 (1 + n) ([.int .u16 (x : Int), .int .u16 0] ++ ivs rs)) (by simp)) (by omega); have f4 := S4.cell 1 rfl 0 rfl; have f5 := S4.free 1 rfl 0))
  all_goals (have S5 := SS.store (L := [O 2 115 (.slice (some ⟨g4, 0, none⟩) (1 + n) c4) (1 + n) ([.int .u16 (x : Int), .int .u16 0] ++ ivs rs)]) S4 0 (.slice (some ⟨g4, 0, none⟩) (1 + n) c4); go_wp2)
  all_goals go_ret
  all_goals
    have hX := HX.out
    rw [List.take_zero, List.nil_append, List.drop_zero] at hX
    have e6 : [.int .u16 (x : Int), .int .u16 0] ++ ivs rs = ivs ((x, x) :: rs) := by rw [ivs_cons]; simp
    rw [e6] at S5
    have S6 := SS.left (L := RCn p g4 (1 + n) c4 ((x, x) :: rs)) (M := [O 2 115 (.slice (some ⟨g, 0, none⟩) n c) n (ivs rs)]) S5.swap
    exact OneR.done (by rw [List.length_cons, Hn.out, Nat.add_comm]) (by omega) (by rw [Hn.out, Nat.add_comm]; exact Nat.le_refl _) hX S6
end Go.Proofs
