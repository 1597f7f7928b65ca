/-
  runContainer16.Add: one number is added to runs: what stands ahead of the walks.
  runContainer16.deleteAt: the ways in which no run comes or goes: the first or the last number of a run.
  runContainer16.deleteAt: the way in which a run goes.
-/
import Derived.Test.YtjjijipfhnoomaaGreatDoorJAoR
import Derived.Test.YtjjijipfhnoomaaGreatDoorKEf
import Derived.Test.YtjjijipfhnoomaaGreatDoorJAcb
import Derived.Test.YtjjijipfhnoomaaGreatDoorJKo
import Derived.Deep.RegionHeld3
import Derived.StillTailTactics
namespace Go.Roar
open Go.RowKit Go.Proofs
/-- A run container whose slice is written out. -/
def RCn (p g n c : Nat) (rs : List (Nat × Nat)) : List HA := [B p 112 [.slice (some ⟨g, 0, none⟩) n c], O 2 114 (.slice (some ⟨g, 0, none⟩) n c) n (ivs rs)]
theorem RCn.eq (p g n c : Nat) {rs : List (Nat × Nat)} (h : rs.length = n) : RCn p g n c rs = RC p (.slice (some ⟨g, 0, none⟩) n c) rs := by subst h; rfl
theorem RCn.of {w : World} {p : Nat} {v : Value} {rs : List (Nat × Nat)} (h : Parts w (RC p v rs)) (h0 : rs ≠ []) : ∃ g c, v = .slice (some ⟨g, 0, none⟩) rs.length c ∧ rs.length ≤ c ∧ c ≤ maxLen := by
  have ho : Own w 2 114 v rs.length (ivs rs) := h.all (O 2 114 v rs.length (ivs rs)) (by simp [RC])
  exact Own.shape ho (List.length_pos_iff.2 h0)
theorem RCn.own {w0 w : World} {F : List Nat} {p g n c : Nat} {rs : List (Nat × Nat)} (S : SS w0 F w (RCn p g n c rs)) : Own w 2 114 (.slice (some ⟨g, 0, none⟩) n c) n (ivs rs) := S.get (A := O 2 114 (.slice (some ⟨g, 0, none⟩) n c) n (ivs rs)) (by simp [RCn])
theorem RCn.iv {w0 w : World} {F : List Nat} {p g n c : Nat} {rs : List (Nat × Nat)} (S : SS w0 F w (RCn p g n c rs)) {k : Nat} {r : Nat × Nat} (h : rs[k]? = some r) :
    (w.cell? ⟨g, k * 2, none⟩ = some (.int .u16 (r.1 : Int)) ∧ w.frozen? ⟨g, k * 2, none⟩ = false) ∧ (w.cell? ⟨g, k * 2 + 1, none⟩ = some (.int .u16 ((r.2 - r.1 : Nat) : Int)) ∧ w.frozen? ⟨g, k * 2 + 1, none⟩ = false) :=
  ⟨Own.cellAt (RCn.own S) (ivs_at h).1, Own.cellAt (RCn.own S) (ivs_at h).2⟩
theorem RCn.setB {w0 w : World} {F : List Nat} {p g n c : Nat} {rs : List (Nat × Nat)} (S : SS w0 F w (RCn p g n c rs)) {k s e : Nat} (h : rs[k]? = some (s, e)) (e' : Nat) :
    SS w0 F (w.setCell ⟨g, k * 2 + 1, none⟩ (.int .u16 ((e' - s : Nat) : Int))) (RCn p g n c (rs.set k (s, e'))) := by
  have hk := (List.getElem?_eq_some_iff.1 h).1
  have := SS.storeO (L := [B p 112 [.slice (some ⟨g, 0, none⟩) n c]]) (R := []) S (k * 2 + 1) (by rw [ivs_length]; omega) (.int .u16 ((e' - s : Nat) : Int))
  rw [ivs_setB h] at this
  exact this
theorem RCn.setA {w0 w : World} {F : List Nat} {p g n c : Nat} {rs : List (Nat × Nat)} (S : SS w0 F w (RCn p g n c rs)) {k s e : Nat} (h : rs[k]? = some (s, e)) (s' : Nat) :
    SS w0 F (w.setCell ⟨g, k * 2, none⟩ (.int .u16 (s' : Int))) (RCn p g n c (rs.set k (s', s' + (e - s)))) := by
  have hk := (List.getElem?_eq_some_iff.1 h).1
  have := SS.storeO (L := [B p 112 [.slice (some ⟨g, 0, none⟩) n c]]) (R := []) S (k * 2) (by rw [ivs_length]; omega) (.int .u16 (s' : Int))
  have e1 : (ivs rs).set (k * 2) (.int .u16 (s' : Int)) = ivs (rs.set k (s', s' + (e - s))) := by
    rw [← ivs_set (r := (s', s' + (e - s))) hk]
    obtain ⟨h1, h2⟩ := List.getElem?_eq_some_iff.1 (ivs_at h).2
    have h3 : ((ivs rs).set (k * 2) (.int .u16 (s' : Int)))[k * 2 + 1]'(by rw [List.length_set]; exact h1) = .int .u16 (((s', s' + (e - s)).2 - (s', s' + (e - s)).1 : Nat) : Int) := by
      rw [List.getElem_set_ne (by omega), h2]
      dsimp only
      rw [Nat.add_sub_cancel_left]
    rw [← h3, List.set_getElem_self]
  rw [e1] at this
  exact this
/-- What adding one number to runs leads to. -/
def OneR (rs : List (Nat × Nat)) (x p : Nat) (F : List Nat) (w : World) (ed : Ending) (w' : World) : Prop :=
  ∃ b v' m, ed = .returned (.bool b) ∧ RgOK 65536 m ∧ m ≠ [] ∧ m.length ≤ rs.length + 1 ∧ rgNums m = addS (rgNums rs) x (x + 1) ∧ SS w F w' (RC p v' m)
theorem OneR.set {rs : List (Nat × Nat)} {x p g n c k : Nat} {F : List Nat} {w w' : World} {r : Nat × Nat} {b : Bool} (hn : rs.length = n) (hk : k < n) (h : RgOK 65536 (rs.take k ++ r :: rs.drop (k + 1)) ∧ rgNums (rs.take k ++ r :: rs.drop (k + 1)) = addS (rgNums rs) x (x + 1))
    (S : SS w F w' (RCn p g n c (rs.set k r))) : OneR rs x p F w (.returned (.bool b)) w' := by
  rw [mid_set r (by omega)] at h
  rw [RCn.eq p g n c (by rw [List.length_set]; exact hn)] at S
  refine ⟨b, _, _, rfl, h.1, ?_, by rw [List.length_set]; omega, h.2, S⟩
  intro e
  have := congrArg List.length e
  rw [List.length_set, hn, List.length_nil] at this
  omega
theorem spot_one {rs : List (Nat × Nat)} {x j j' : Nat} (h : Spot16 rs 0 x j) (h' : Spot16 rs 0 x j') : j = j' := by
  rcases Nat.lt_trichotomy j j' with hlt | he | hlt
  · have hl := h'.2.1
    have hg := List.getElem?_eq_getElem (show j < rs.length by omega)
    have h1 := h'.2.2.1 j _ (Nat.zero_le _) hlt hg
    have h2 := h.2.2.2 _ hg
    omega
  · exact he
  · have hl := h.2.1
    have hg := List.getElem?_eq_getElem (show j' < rs.length by omega)
    have h1 := h.2.2.1 j' _ (Nat.zero_le _) hlt hg
    have h2 := h'.2.2.2 _ hg
    omega
/-- A new slice of one struct. -/
theorem SS.newO {w0 w : World} {F0 : List Nat} {L : List HA} (h : SS w0 F0 w L) (t : TypeId) (a b : Value) : SS w0 F0 (w.alloc (.cells #[a, b] t)) (O 2 t (.slice (some ⟨w.heap.size, 0, none⟩) 1 1) 1 [a, b] :: L) := by
  refine h.join (M := [O 2 t (.slice (some ⟨w.heap.size, 0, none⟩) 1 1) 1 [a, b]]) ⟨⟨fun A hA => ?_, by simp [O]⟩, fun b hb => ?_, (Kept.refl _ _).alloc _⟩
  · simp at hA; subst hA
    exact ⟨rfl, .inr ⟨w.heap.size, 0, [], rfl, rfl, by unfold maxLen; omega, Blk.new w t [a, b]⟩⟩
  · simp [O] at hb; subst hb; exact .inr (Nat.le_refl _)
end Go.Roar
namespace Go.Proofs
open Go.RowKit Go.Roar

set_option maxRecDepth 100000 in
set_option maxHeartbeats 1000000 in
theorem rcSearch_any (p : Nat) (rs : List (Nat × Nat)) (key : Nat) (w : World) (hR : RCV w p rs) (hr : RgOK 65536 rs) (h0 : 0 < rs.length) (hk : key ≤ 65536) (hl : rs.length ≤ 65536) :
    Calls Tryz.prog 233 #[.pointer (some ⟨p, 0, none⟩), .int .i64 (key : Int)] w fun ed w' => SPostB rs 0 key w ed w' := by
  have S := Lib.hid (show Calls Tryz.prog 241 #[.pointer (some ⟨p, 0, none⟩), .int .i64 (key : Int), .int .i64 0, .int .i64 0] w fun ed w' => SPostB rs 0 key w ed w' from searchB_any p rs key 0 w hR hr h0 hk (Nat.zero_le _) hl (fun r h => absurd h (Nat.lt_irrefl _)))
  clear hR hr
  go_enter Tryz.func233, Tryz.ntmps233
  go_wp2_with (first
    | (go_at_call 241; (with_reducible refine S.out.mono ?_); rintro ed w1 ⟨W, b, z, j, rfl, hP⟩; have HP := Lib.hid hP; clear hP)
    | fail)
  go_ret3
  exact ⟨W, b, z, j, rfl, HP.out⟩

theorem searchNo {p : Nat} {v : Value} {rs : List (Nat × Nat)} {x j : Nat} {J : Int} {w : World} (h : Parts w (RC p v rs)) (hr : RgOK 65536 rs) (h0 : rs ≠ []) (hx : x < 65536) (hj : Spot16 rs 0 x j) (hno : ∀ r : Nat × Nat, rs[j]? = some r → x < r.1) (hJ : J + 1 = (j : Int)) :
    Calls Tryz.prog 233 #[.pointer (some ⟨p, 0, none⟩), .int .i64 (x : Int)] w fun ed w' => ∃ z, ed = .returned (.tuple #[.int .i64 J, .bool false, .int .i64 z]) ∧ Mild w w' := by
  refine (rcSearch_any p rs x w (RCV.of h h0) hr (List.length_pos_iff.2 h0) (by omega) (by have := hr.many; omega)).mono ?_
  rintro ed w' ⟨W, b, z, j', rfl, h1, h2, h3, h4⟩
  obtain rfl := spot_one hj h1
  cases b
  · obtain ⟨e, _⟩ := h3 rfl
    obtain rfl : W = J := by omega
    exact ⟨z, rfl, h4⟩
  · obtain ⟨_, r, hr1, hr2⟩ := h2 rfl
    have := hno r hr1
    omega
theorem searchYes {p : Nat} {v : Value} {rs : List (Nat × Nat)} {x j : Nat} {r : Nat × Nat} {w : World} (h : Parts w (RC p v rs)) (hr : RgOK 65536 rs) (h0 : rs ≠ []) (hx : x < 65536) (hj : Spot16 rs 0 x j) (hyes : rs[j]? = some r) (hr1 : r.1 ≤ x) :
    Calls Tryz.prog 233 #[.pointer (some ⟨p, 0, none⟩), .int .i64 (x : Int)] w fun ed w' => ∃ z, ed = .returned (.tuple #[.int .i64 (j : Int), .bool true, .int .i64 z]) ∧ Mild w w' := by
  refine (rcSearch_any p rs x w (RCV.of h h0) hr (List.length_pos_iff.2 h0) (by omega) (by have := hr.many; omega)).mono ?_
  rintro ed w' ⟨W, b, z, j', rfl, h1, h2, h3, h4⟩
  obtain rfl := spot_one hj h1
  cases b
  · obtain ⟨_, hn⟩ := h3 rfl
    have := hn r hyes
    omega
  · obtain ⟨rfl, _⟩ := h2 rfl
    exact ⟨z, rfl, h4⟩
end Go.Proofs

namespace Go.Roar
open Go.RowKit Go.Proofs
/-- A run container, and the two variables that point into it. -/
def DAT (p g n c a b : Nat) (va vb : Value) (rs : List (Nat × Nat)) : List HA := [B b 57 [vb], B a 3 [va], B p 112 [.slice (some ⟨g, 0, none⟩) n c], O 2 114 (.slice (some ⟨g, 0, none⟩) n c) n (ivs rs)]
theorem DAT.own {w0 w : World} {F : List Nat} {p g n c a b : Nat} {va vb : Value} {rs : List (Nat × Nat)} (S : SS w0 F w (DAT p g n c a b va vb rs)) : Own w 2 114 (.slice (some ⟨g, 0, none⟩) n c) n (ivs rs) := S.get (A := O 2 114 (.slice (some ⟨g, 0, none⟩) n c) n (ivs rs)) (by simp [DAT])
theorem DAT.iv {w0 w : World} {F : List Nat} {p g n c a b : Nat} {va vb : Value} {rs : List (Nat × Nat)} (S : SS w0 F w (DAT p g n c a b va vb rs)) {k : Nat} {r : Nat × Nat} (h : rs[k]? = some r) :
    (w.cell? ⟨g, k * 2, none⟩ = some (.int .u16 (r.1 : Int)) ∧ w.frozen? ⟨g, k * 2, none⟩ = false) ∧ (w.cell? ⟨g, k * 2 + 1, none⟩ = some (.int .u16 ((r.2 - r.1 : Nat) : Int)) ∧ w.frozen? ⟨g, k * 2 + 1, none⟩ = false) :=
  ⟨Own.cellAt (DAT.own S) (ivs_at h).1, Own.cellAt (DAT.own S) (ivs_at h).2⟩
theorem DAT.setB {w0 w : World} {F : List Nat} {p g n c a b : Nat} {va vb : Value} {rs : List (Nat × Nat)} (S : SS w0 F w (DAT p g n c a b va vb rs)) {k s e : Nat} (h : rs[k]? = some (s, e)) (e' : Nat) :
    SS w0 F (w.setCell ⟨g, k * 2 + 1, none⟩ (.int .u16 ((e' - s : Nat) : Int))) (DAT p g n c a b va vb (rs.set k (s, e'))) := by
  have hk := (List.getElem?_eq_some_iff.1 h).1
  have := SS.storeO (L := [B b 57 [vb], B a 3 [va], B p 112 [.slice (some ⟨g, 0, none⟩) n c]]) (R := []) S (k * 2 + 1) (by rw [ivs_length]; omega) (.int .u16 ((e' - s : Nat) : Int))
  rw [ivs_setB h] at this
  exact this
theorem DAT.setA {w0 w : World} {F : List Nat} {p g n c a b : Nat} {va vb : Value} {rs : List (Nat × Nat)} (S : SS w0 F w (DAT p g n c a b va vb rs)) {k s e : Nat} (h : rs[k]? = some (s, e)) (s' : Nat) :
    SS w0 F (w.setCell ⟨g, k * 2, none⟩ (.int .u16 (s' : Int))) (DAT p g n c a b va vb (rs.set k (s', s' + (e - s)))) := by
  have hk := (List.getElem?_eq_some_iff.1 h).1
  have := SS.storeO (L := [B b 57 [vb], B a 3 [va], B p 112 [.slice (some ⟨g, 0, none⟩) n c]]) (R := []) S (k * 2) (by rw [ivs_length]; omega) (.int .u16 (s' : Int))
  have e1 : (ivs rs).set (k * 2) (.int .u16 (s' : Int)) = ivs (rs.set k (s', s' + (e - s))) := by
    rw [← ivs_set (r := (s', s' + (e - s))) hk]
    obtain ⟨h1, h2⟩ := List.getElem?_eq_some_iff.1 (ivs_at h).2
    have h3 : ((ivs rs).set (k * 2) (.int .u16 (s' : Int)))[k * 2 + 1]'(by rw [List.length_set]; exact h1) = .int .u16 (((s', s' + (e - s)).2 - (s', s' + (e - s)).1 : Nat) : Int) := by
      rw [List.getElem_set_ne (by omega), h2]
      dsimp only
      rw [Nat.add_sub_cancel_left]
    rw [← h3, List.set_getElem_self]
  rw [e1] at this
  exact this
/-- What deleting leads to. -/
def DelP (rs : List (Nat × Nat)) (x p a b : Nat) (F : List Nat) (w : World) (ed : Ending) (w' : World) : Prop :=
  ed = .returned (.tuple #[]) ∧ ∃ va vb v' m, RgOK 65536 m ∧ m.length ≤ rs.length + 1 ∧ rgNums m = wo (rgNums rs) x ∧ SS w F w' ([B b 57 [vb], B a 3 [va]] ++ RC p v' m)
theorem DelP.of {rs m : List (Nat × Nat)} {x p g n c a b : Nat} {va vb : Value} {F : List Nat} {w w' : World} (hn : m.length = n) (hm : n ≤ rs.length + 1) (h : RgOK 65536 m ∧ rgNums m = wo (rgNums rs) x)
    (S : SS w F w' (DAT p g n c a b va vb m)) : DelP rs x p a b F w (.returned (.tuple #[])) w' := by
  subst hn
  exact ⟨rfl, va, vb, _, m, h.1, hm, h.2, S⟩
end Go.Roar
namespace Go.Proofs
open Go.RowKit Go.Roar

set_option maxRecDepth 100000 in
set_option maxHeartbeats 1000000 in
theorem del_first (p g n c a b k s e : Nat) (rs : List (Nat × Nat)) (w : World) (hr : RgOK 65536 rs) (hn : rs.length = n) (h1 : rs[k]? = some (s, e)) (hse : s < e) (h : Parts w (DAT p g n c a b (.int .i64 (k : Int)) (.int .u16 0) rs)) :
    Calls Tryz.prog 240 #[.pointer (some ⟨p, 0, none⟩), .pointer (some ⟨a, 0, none⟩), .pointer (some ⟨b, 0, none⟩)] w fun ed w' => DelP rs s p a b (foot (DAT p g n c a b (.int .i64 (k : Int)) (.int .u16 0) rs)) w ed w' := by
  have hre := runs_one hr h1
  simp only at hre
  have HX := Lib.hid (wo_first hr h1 hse)
  have hk := (List.getElem?_eq_some_iff.1 h1).1
  have HK := Lib.hid (mid_set (rs := rs) (s + 1, e) hk)
  have hmany := hr.many
  have S0 := SS.init h
  generalize foot (DAT p g n c a b (.int .i64 (k : Int)) (.int .u16 0) rs) = F at *
  obtain ⟨t, ht⟩ : ∃ t, t = s + 1 := ⟨_, rfl⟩
  obtain ⟨m, hm⟩ : ∃ m, m = e - s := ⟨_, rfl⟩
  have g2 : (rs.set k (t, t + (e - s)))[k]? = some (t, t + (e - s)) := List.getElem?_set_self hk
  have S1 := DAT.setA S0 h1 t
  have S2 := Lib.hid (DAT.setB S1 g2 e)
  have c0 := S0.cell 2 rfl 0 rfl
  have ca := S0.cell 1 rfl 0 rfl
  have cb := S0.cell 0 rfl 0 rfl
  have d0 := (DAT.iv S0 h1).1
  have d1 := (DAT.iv S0 h1).2.1
  have e0 := S1.cell 2 rfl 0 rfl
  have e1 := (DAT.iv S1 g2).2
  simp only [Nat.add_sub_cancel_left] at e1
  simp only at d0 d1
  rw [← hm] at e1 d1
  have q1 : (s : Int) + 1 = (t : Int) := by omega
  have q0 : IntKind.u16.wrap (t : Int) = (t : Int) := IntWalk.u16_in _ (by omega)
  have q2 : IntKind.u16.wrap ((m : Int) - 1) = ((e - t : Nat) : Int) := by rw [IntWalk.u16_in _ (by omega)]; omega
  have q3 : (m : Int) - 1 = ((e - t : Nat) : Int) := by omega
  have i1 : ((m : Int) == 0) = false := by rw [beq_eq_false_iff_ne]; omega
  have i2 : ¬ (m : Int) = 0 := by omega
  have i3 : (k : Int) < (n : Int) := by omega
  have hm2 : m < 65536 := by omega
  have Hn := Lib.hid hn
  have Ht := Lib.hid ht
  clear hn h1 g2 S0 S1 h hr hse hre hm ht
  generalize e - t = m3 at *
  go_enter Tryz.func240, Tryz.ntmps240
  go_wp2_with fail
  go_end0
  have S3 := S2.out
  rw [List.set_set] at S3
  have hX := HX.out
  rw [HK.out, ← Ht.out] at hX
  exact DelP.of (by rw [List.length_set, Hn.out]) (by rw [Hn.out]; exact Nat.le_succ n) hX S3

set_option maxRecDepth 100000 in
set_option maxHeartbeats 1000000 in
theorem del_last (p g n c a b k s e : Nat) (rs : List (Nat × Nat)) (w : World) (hr : RgOK 65536 rs) (hn : rs.length = n) (h1 : rs[k]? = some (s, e)) (hse : s < e) (h : Parts w (DAT p g n c a b (.int .i64 (k : Int)) (.int .u16 ((e - s : Nat) : Int)) rs)) :
    Calls Tryz.prog 240 #[.pointer (some ⟨p, 0, none⟩), .pointer (some ⟨a, 0, none⟩), .pointer (some ⟨b, 0, none⟩)] w fun ed w' => DelP rs e p a b (foot (DAT p g n c a b (.int .i64 (k : Int)) (.int .u16 ((e - s : Nat) : Int)) rs)) w ed w' := by
  have hre := runs_one hr h1
  simp only at hre
  have HX := Lib.hid (wo_last hr h1 hse)
  have hk := (List.getElem?_eq_some_iff.1 h1).1
  have HK := Lib.hid (mid_set (rs := rs) (s, e - 1) hk)
  have hmany := hr.many
  have S0 := SS.init h
  generalize foot (DAT p g n c a b (.int .i64 (k : Int)) (.int .u16 ((e - s : Nat) : Int)) rs) = F at *
  have S1 := DAT.setB S0 h1 (e - 1)
  have S2 := Lib.hid (SS.store (L := []) S1 0 (.int .u16 ((e - 1 - s : Nat) : Int)))
  have c0 := S0.cell 2 rfl 0 rfl
  have ca := S0.cell 1 rfl 0 rfl
  have cb := S0.cell 0 rfl 0 rfl
  have d1 := (DAT.iv S0 h1).2
  have e0 := S1.cell 0 rfl 0 rfl
  have e1 := S1.free 0 rfl 0
  simp only at d1
  obtain ⟨m, hm⟩ : ∃ m, m = e - s := ⟨_, rfl⟩
  have q2 : IntKind.u16.wrap ((m : Int) - 1) = ((e - 1 - s : Nat) : Int) := by rw [IntWalk.u16_in _ (by omega)]; omega
  rw [← hm] at cb d1 e0
  have i1 : ((m : Int) == 0) = false := by rw [beq_eq_false_iff_ne]; omega
  have i2 : ¬ (m : Int) = 0 := by omega
  have i3 : (k : Int) < (n : Int) := by omega
  have hm1 : 1 ≤ m := by omega
  have hm2 : m < 65536 := by omega
  have Hn := Lib.hid hn
  clear hn h1 S0 S1 h hr hse hre hm
  generalize e - 1 - s = m2 at *
  go_enter Tryz.func240, Tryz.ntmps240
  go_wp2_with fail
  go_end0
  have S3 := S2.out
  have hX := HX.out
  rw [HK.out] at hX
  exact DelP.of (by rw [List.length_set, Hn.out]) (by rw [Hn.out]; exact Nat.le_succ n) hX S3
end Go.Proofs

namespace Go.Roar
open Go.RowKit Go.Proofs
theorem ivs_srcD {w : World} {rs : List (Nat × Nat)} {g n c k : Nat} (hn : rs.length = n) (hk : k ≤ n) (hc : n ≤ c) (h : Own w 2 114 (.slice (some ⟨g, 0, none⟩) n c) n (ivs rs)) :
    ∀ (j : Nat) (u : Value), (ivs (rs.drop k))[j]? = some u → w.cell? ((tlA g 0 k c 2).add j) = some u := by
  rcases Nat.lt_or_ge k n with hlt | hge
  · exact ivs_src (by omega) (by omega) (fun i r hr => ⟨(Own.cellAt h (ivs_at hr).1).1, (Own.cellAt h (ivs_at hr).2).1⟩)
  · intro j u hj
    rw [List.drop_eq_nil_of_le (by omega)] at hj
    simp [ivs] at hj
end Go.Roar
namespace Go.Proofs
open Go.RowKit Go.Roar
attribute [local go_sem ↓] Go.wp_at_zero Go.wp_at_succ

set_option maxRecDepth 100000 in
set_option maxHeartbeats 4000000 in
theorem del_run (p g n c a b k s : Nat) (rs : List (Nat × Nat)) (w : World) (hr : RgOK 65536 rs) (hn : rs.length = n) (h1 : rs[k]? = some (s, s)) (h : Parts w (DAT p g n c a b (.int .i64 (k : Int)) (.int .u16 0) rs)) :
    Calls Tryz.prog 240 #[.pointer (some ⟨p, 0, none⟩), .pointer (some ⟨a, 0, none⟩), .pointer (some ⟨b, 0, none⟩)] w fun ed w' => DelP rs s p a b (foot (DAT p g n c a b (.int .i64 (k : Int)) (.int .u16 0) rs)) w ed w' := by
  obtain ⟨iU, zv1, zv2, zv3, zv4⟩ := info_parts infoIv
  have HX := Lib.hid (wo_run hr h1 ⟨Nat.le_refl s, Nat.le_refl s⟩ rfl)
  have hk := (List.getElem?_eq_some_iff.1 h1).1
  have hmany := hr.many
  have S0 := SS.init h
  generalize foot (DAT p g n c a b (.int .i64 (k : Int)) (.int .u16 0) rs) = F at *
  have hcap := Own.caps (DAT.own S0)
  have c0 := S0.cell 2 rfl 0 rfl
  have ca := S0.cell 1 rfl 0 rfl
  have cb := S0.cell 0 rfl 0 rfl
  have d1 := (DAT.iv S0 h1).2.1
  simp only [Nat.sub_self] at d1
  have hkn : k + 1 ≤ n := by omega
  have hkc : k ≤ c := by omega
  obtain ⟨ys, -, -, hy3, S6⟩ := SS.reslice (L := [B b 57 [.int .u16 0], B a 3 [.int .i64 (k : Int)], B p 112 [.slice (some ⟨g, 0, none⟩) n c]]) (R := []) (m := k) S0.drew hkc
  have Hy := Lib.hid (hy3 (by omega))
  have HS6 := Lib.hid S6
  have HO := Lib.hid (DAT.own S0.drew)
  have Z := Lib.hid (And.intro (show k + (n - (k + 1)) ≤ maxLen by unfold maxLen; omega) (show (k + (n - (k + 1))) * 4 ≤ 140737488355328 by omega))
  have q4 : IntKind.i64.wrap ((k : Int) + 1) = (k : Int) + 1 := IntWalk.i64_in _ (by omega)
  have i3 : (k : Int) < (n : Int) := by omega
  have hc1 := hcap.1
  have hc2 := hcap.2
  have Hn := Lib.hid hn
  have s1 := fun (W : World) => run_slice_from (P := Tryz.prog) W undIvs szIv g 0 n c (k + 1) .i64 ((k : Int) + 1) (by omega) hkn
  have s3 := fun (W : World) => run_slice_to (P := Tryz.prog) W undIvs szIv (some ⟨g, 0, none⟩) n c k .i64 (k : Int) rfl hkc
  clear hn h1 S0 S6 h hr hy3 hcap hk
  go_enter Tryz.func240, Tryz.ntmps240
  go_upto_region 13 with fail
  go_region_law (first
    | (refine step_of_list rfl ?_; intro Q9 hQ9; refine wpList_append_ss rfl (.tmp 116) (.tmp 123) 110 rfl 114 iU (.agg #[.int .u16 (0 : Int), .int .u16 (0 : Int)]) 2 4 undIvs zv1 zv2 zv3 zv4 rfl (by decide) w F [B b 57 [.int .u16 0], B a 3 [.int .i64 (k : Int)], B p 112 [.slice (some ⟨g, 0, none⟩) n c]] [] (.slice (some ⟨g, 0, none⟩) k c) k ys rfl HS6.out (tlA g 0 (k + 1) c 2) (n - (k + 1)) (c - (k + 1)) (ivs (rs.drop (k + 1))) rfl (by rw [ivs_length, List.length_drop, Hn.out]) (ivs_srcD Hn.out hkn hc1 HO.out) (ivs_one _) Z.out.1 Z.out.2 ?_; intro v7 w7 S7; refine hQ9 _ _ ?_; clear hQ9 Q9; have O7 : Own w7 2 114 v7 (k + (n - (k + 1))) (ys ++ ivs (rs.drop (k + 1))) := S7.get (A := O 2 114 v7 (k + (n - (k + 1))) (ys ++ ivs (rs.drop (k + 1)))) (by simp); obtain ⟨G7, c7, rfl, _⟩ := Own.sliceOf O7; clear O7; have r6 := S7.cell 2 rfl 0 rfl; have r7 := S7.free 2 rfl 0; have S8 := SS.store (L := [B b 57 [.int .u16 0], B a 3 [.int .i64 (k : Int)]]) S7 0 (.slice G7 (k + (n - (k + 1))) c7); have y0 := S8.cell 0 rfl 0 rfl; have y1 := S8.free 0 rfl 0; have S9 := Lib.hid (SS.store (L := []) S8 0 (.int .u16 0)); clear S7 S8))
  all_goals go_wp2
  all_goals go_end0
  all_goals
    clear q4
    have S3 := S9.out
    have hX := HX.out
    have e6 : ys ++ ivs (rs.drop (k + 1)) = ivs (rs.take k ++ rs.drop (k + 1)) := by rw [Hy.out, ivs_take2, ivs_app]
    have e7 : (rs.take k ++ rs.drop (k + 1)).length = k + (n - (k + 1)) := by rw [List.length_append, List.length_take, List.length_drop, Hn.out, Nat.min_eq_left (by omega)]
    rw [e6] at S3
    refine ⟨rfl, .int .i64 (k : Int), .int .u16 0, .slice G7 (k + (n - (k + 1))) c7, rs.take k ++ rs.drop (k + 1), hX.1, by rw [e7, Hn.out]; omega, hX.2, ?_⟩
    unfold RC
    rw [e7]
    exact S3
end Go.Proofs
