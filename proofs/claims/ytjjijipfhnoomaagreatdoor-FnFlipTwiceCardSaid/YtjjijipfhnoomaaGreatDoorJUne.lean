/-
  runContainer16.union where one of the two containers has no runs; intersect where the first has none.
  runContainer16.Not, inot: a range turned round in runs.
  A container's inot through the interface; isEmpty of a container that may be empty.
-/
import Derived.Test.YtjjijipfhnoomaaGreatDoorKUnb
import Derived.Test.YtjjijipfhnoomaaGreatDoorKIst
import Derived.Test.YtjjijipfhnoomaaGreatDoorJAp2
import Derived.Test.YtjjijipfhnoomaaGreatDoorJRe0
import Derived.Test.YtjjijipfhnoomaaGreatDoorJOrb
import Derived.Test.YtjjijipfhnoomaaGreatDoorKEf
import Derived.Test.YtjjijipfhnoomaaGreatDoorJPtg
import Derived.Test.YtjjijipfhnoomaaGreatDoorKAnt
import Derived.Test.YtjjijipfhnoomaaGreatDoorJCc
namespace Go.Proofs
open Go.RowKit Go.Roar

set_option maxRecDepth 100000 in
set_option maxHeartbeats 8000000 in
/-- .. where one of the two has no runs. -/
theorem unionE_any (p q na nb ca cb : Nat) (Ga Gb : Option Addr) (a b : List (Nat × Nat)) (w : World) (a0 : w.cell? ⟨p, 0, none⟩ = some (.slice Ga na ca)) (b0 : w.cell? ⟨q, 0, none⟩ = some (.slice Gb nb cb)) (hna : na = a.length) (hnb : nb = b.length) (hE : na = 0 ∨ nb = 0)
    (hA : 0 < na → RCV w p a) (hB : 0 < nb → RCV w q b) (ha : RgOK 65536 a) (hb : RgOK 65536 b) :
    Calls Tryz.prog 225 #[.pointer (some ⟨p, 0, none⟩), .pointer (some ⟨q, 0, none⟩)] w fun ed w' => UniP a b w ed w' := by
  obtain ⟨iU, v1, v2, v3, v4⟩ := info_parts infoIv
  have hal := ha.many
  have hbl := hb.many
  have Ha := Lib.hid ha
  have Hb := Lib.hid hb
  have S0 : SS w [] (((w.alloc (.cells #[.int .u16 (0 : Int), .int .u16 (0 : Int)] 114)).alloc (.cells #[.int .u16 (0 : Int), .int .u16 (0 : Int)] 114)).alloc (.cells #[.int .u16 (0 : Int), .int .u16 (0 : Int)] 114)) (UL w.heap.size (.slice none 0 0) [] 0 0 0 0 0 0) := by
    have := (((SS.nothing w).new 114 [.int .u16 (0 : Int), .int .u16 (0 : Int)]).new 114 [.int .u16 (0 : Int), .int .u16 (0 : Int)]).new 114 [.int .u16 (0 : Int), .int .u16 (0 : Int)]
    simp only [World.size_alloc] at this
    exact this.join (SS.bare _ 2 114)
  have HS0 := Lib.hid S0
  clear S0
  rw [← hna] at hal
  rw [← hnb] at hbl
  have HNA := Lib.hid hna
  have HNB := Lib.hid hnb
  have hA := Lib.hid hA
  have hB := Lib.hid hB
  clear hna hnb ha hb
  go_enter Tryz.func225, Tryz.ntmps225
  go_wp2
  generalize hH : w.heap.size = H at *
  have HH := Lib.hid hH
  clear hH
  go_loopw [8, 9, 11, 5, 14] (fun sa sb us v ps wr => (∃ Z : Int, ps = .int .i64 Z) ∧ sa = .int .i64 0 ∧ sb = .int .i64 0 ∧ us = .bool false ∧ v = .slice none 0 0 ∧ Hid (SS w [] wr (UL H (.slice none 0 0) [] 0 0 0 0 0 0))) (fun _ _ _ _ _ _ => 0)
  case atStart => exact ⟨⟨0, rfl⟩, rfl, rfl, rfl, rfl, HS0⟩
  case round =>
    obtain ⟨⟨Z, rfl⟩, rfl, rfl, rfl, rfl, HS⟩ := hrel
    clear HS0
    have km := HS.out.mild
    by_cases hi2 : 0 < na
    · have hnb0 : nb = 0 := by omega
      subst hnb0
      obtain ⟨gp, cp, h8, h9, hcc⟩ := hA.out (by omega)
      rw [← HNA.out] at h8 h9
      have hGe := Option.some.inj (a0.symm.trans h9)
      simp only [Value.slice.injEq, true_and] at hGe
      obtain ⟨rfl, rfl⟩ := hGe
      have he0 : b = [] := List.eq_nil_of_length_eq_zero HNB.out.symm
      have j1 : (0 : Int) < (na : Int) := by omega
      have j2 : ¬ (na : Int) ≤ 0 := by omega
      have a0' := km.cell2 id a0
      have b0' := km.cell2 id b0
      have CP := Lib.hid (ivs_src (w := wr) (rs := a) (g := gp) (c := ca) (k := 0) (by have := HNA.out; omega) (by have := HNA.out; omega) (fun i r hi => ⟨km.cell2 id (hcc i r hi).1, km.cell2 id (hcc i r hi).2⟩))
      have s1 := fun (W : World) => run_slice_from (P := Tryz.prog) W undIvs szIv gp 0 na ca 0 .i64 (0 : Int) rfl (by omega)
      have HLn := Lib.hid (show (ivs (a.drop 0)).length = (na - 0) * 2 from by rw [ivs_length, List.length_drop, ← HNA.out])
      have hml : a.length ≤ 32768 := by rw [← HNA.out]; omega
      clear km a0 b0 h9 hcc
      go_wp2_with (first
        | (at_builtin; refine wpList_append_ss rfl (.tmp 194) (.tmp 200) 110 rfl 114 iU (.agg #[.int .u16 (0 : Int), .int .u16 (0 : Int)]) 2 4 undIvs v1 v2 v3 v4 rfl (by decide) w [] [] _ _ _ _ rfl HS.out (tlA gp 0 0 ca 2) (na - 0) (ca - 0) (ivs (a.drop 0)) rfl HLn.out CP.out (ivs_one _) (by unfold maxLen; simp; omega) (by simp; omega) ?_; intro vb wb Sb; have SQ := Lib.hid (UL.pushes (l := (a.drop 0)) (by rw [List.length_drop, ← HNA.out]) Sb); clear Sb; obtain ⟨gz, cz, N, rfl⟩ := UL.shape SQ.out (by rw [List.length_append, List.length_drop, ← HNA.out]; omega))
        | fail)
      go_ret
      exact ⟨wb.heap.size, .slice (some ⟨gz, 0, none⟩) N cz, _, rfl, by simpa using Ha.out, fun x => by subst he0; simp [inR_nil], UL.fin SQ.out⟩
    · have hna0 : na = 0 := by omega
      subst hna0
      by_cases hj2 : 0 < nb
      · obtain ⟨gq, cq, h8, h9, hcc⟩ := hB.out (by omega)
        rw [← HNB.out] at h8 h9
        have hGe := Option.some.inj (b0.symm.trans h9)
        simp only [Value.slice.injEq, true_and] at hGe
        obtain ⟨rfl, rfl⟩ := hGe
        have he0 : a = [] := List.eq_nil_of_length_eq_zero HNA.out.symm
        have j1 : (0 : Int) < (nb : Int) := by omega
        have j2 : ¬ (nb : Int) ≤ 0 := by omega
        have a0' := km.cell2 id a0
        have b0' := km.cell2 id b0
        have CP := Lib.hid (ivs_src (w := wr) (rs := b) (g := gq) (c := cb) (k := 0) (by have := HNB.out; omega) (by have := HNB.out; omega) (fun i r hi => ⟨km.cell2 id (hcc i r hi).1, km.cell2 id (hcc i r hi).2⟩))
        have s1 := fun (W : World) => run_slice_from (P := Tryz.prog) W undIvs szIv gq 0 nb cb 0 .i64 (0 : Int) rfl (by omega)
        have HLn := Lib.hid (show (ivs (b.drop 0)).length = (nb - 0) * 2 from by rw [ivs_length, List.length_drop, ← HNB.out])
        have hml : b.length ≤ 32768 := by rw [← HNB.out]; omega
        clear km a0 b0 h9 hcc
        go_wp2_with (first
          | (at_builtin; refine wpList_append_ss rfl (.tmp 205) (.tmp 211) 110 rfl 114 iU (.agg #[.int .u16 (0 : Int), .int .u16 (0 : Int)]) 2 4 undIvs v1 v2 v3 v4 rfl (by decide) w [] [] _ _ _ _ rfl HS.out (tlA gq 0 0 cb 2) (nb - 0) (cb - 0) (ivs (b.drop 0)) rfl HLn.out CP.out (ivs_one _) (by unfold maxLen; simp; omega) (by simp; omega) ?_; intro vb wb Sb; have SQ := Lib.hid (UL.pushes (l := (b.drop 0)) (by rw [List.length_drop, ← HNB.out]) Sb); clear Sb; obtain ⟨gz, cz, N, rfl⟩ := UL.shape SQ.out (by rw [List.length_append, List.length_drop, ← HNB.out]; omega))
          | fail)
        go_ret
        exact ⟨wb.heap.size, .slice (some ⟨gz, 0, none⟩) N cz, _, rfl, by simpa using Hb.out, fun x => by subst he0; simp [inR_nil], UL.fin SQ.out⟩
      · have hnb0 : nb = 0 := by omega
        subst hnb0
        obtain rfl : a = [] := List.eq_nil_of_length_eq_zero HNA.out.symm
        obtain rfl : b = [] := List.eq_nil_of_length_eq_zero HNB.out.symm
        go_wp2_with fail
        go_ret
        exact ⟨wr.heap.size, _, [], rfl, RgOK.nil _, fun x => by simp [inR_nil], UL.fin HS.out⟩
set_option maxRecDepth 100000 in
theorem intersect0_any (p q nb ca cb : Nat) (Ga Gb : Option Addr) (b : List (Nat × Nat)) (w : World) (a0 : w.cell? ⟨p, 0, none⟩ = some (.slice Ga 0 ca)) (b0 : w.cell? ⟨q, 0, none⟩ = some (.slice Gb nb cb)) :
    Calls Tryz.prog 236 #[.pointer (some ⟨p, 0, none⟩), .pointer (some ⟨q, 0, none⟩)] w fun ed w' => InterP [] b w ed w' := by
  have S0 := Lib.hid (rc_empty (SS.new (w := w) (L := []) (SS.init (w := w) (L := []) ⟨by simp, by simp⟩) 112 [.slice none 0 0]))
  have m0 : Mild w (w.alloc (.cells #[.slice none 0 0] 112)) := (Kept.refl _ _).alloc _
  go_enter Tryz.func236, Tryz.ntmps236
  go_wp2_with fail
  go_step3
  go_wp2_with fail
  try rw [Exit.noGoto_ret]
  go_ret
  exact ⟨w.heap.size, _, [], rfl, RgOK.nil _, fun x => by simp [inR_nil], S0.out⟩
end Go.Proofs

namespace Go.Roar
open Go.RowKit Go.Proofs
theorem RC.look {w : World} {z : Nat} {v : Value} {m : List (Nat × Nat)} (h : Parts w (RC z v m)) : ∃ G c, v = .slice G m.length c ∧ w.cell? ⟨z, 0, none⟩ = some (.slice G m.length c) ∧ (0 < m.length → RCV w z m) := by
  have ho : Own w 2 114 v m.length (ivs m) := h.all (O 2 114 v m.length (ivs m)) (by simp [RC])
  have hB : Blk w z 112 [v] := h.all (B z 112 [v]) (by simp [RC])
  obtain ⟨G, c, rfl, _⟩ := Own.sliceOf ho
  exact ⟨G, c, rfl, hB.cell 0, fun h0 => RCV.of h (List.length_pos_iff.1 h0)⟩
theorem not_iff {P M : Prop} {x s e : Nat} (hse : s < e) (_hx : P → x < 65536) (he : e ≤ 65536) (h : M ↔ ((x < 65536 ∧ ¬ P) ∧ (s ≤ x ∧ x ≤ e - 1)) ∨ (P ∧ ¬ (s ≤ x ∧ x ≤ e - 1))) : M ↔ (P ∧ ¬ (s ≤ x ∧ x < e)) ∨ (¬ P ∧ s ≤ x ∧ x < e) := by
  rw [h]
  have e1 : (s ≤ x ∧ x ≤ e - 1) ↔ (s ≤ x ∧ x < e) := by omega
  rw [e1]
  constructor
  · rintro (⟨⟨g1, g2⟩, g3⟩ | g)
    · exact .inr ⟨g2, g3⟩
    · exact .inl g
  · rintro (g | ⟨g1, g2⟩)
    · exact .inr g
    · exact .inl ⟨⟨by omega, g1⟩, g2⟩
theorem not_nums {rs m1 m2 m3 m4 : List (Nat × Nat)} {s e : Nat} (hr : RgOK 65536 rs) (hse : s < e) (he : e ≤ 65536) (k1 : ∀ x, inR m1 x ↔ x < 65536 ∧ ¬ inR rs x) (k2 : ∀ x, inR m2 x ↔ inR m1 x ∧ inR [(s, e - 1)] x) (k3 : ∀ x, inR m3 x ↔ inR rs x ∧ ¬ inR [(s, e - 1)] x) (k4 : ∀ x, inR m4 x ↔ inR m2 x ∨ inR m3 x) (ok : RgOK 65536 m4) : rgNums m4 = xorS (rgNums rs) s e := by
  refine sorted_ext (rgNums_rising ok) (xorS_rising (rgNums_rising hr) (Nat.le_of_lt hse)) (fun x => ?_)
  have e1 := rgNums_mem (fun r h => (ok.1 r h).1) (x := x)
  have e2 := rgNums_mem (fun r h => (hr.1 r h).1) (x := x)
  rw [xorS_mem (Nat.le_of_lt hse), e1, e2]
  refine not_iff (P := inR rs x) (M := inR m4 x) hse (fun ⟨r, h1, h2, h3⟩ => Nat.lt_of_le_of_lt h3 (hr.1 r h1).2) he ?_
  rw [k4, k2, k3, k1, inR_one]
end Go.Roar
namespace Go.Proofs
open Go.RowKit Go.Roar
theorem inter_all (p q : Nat) (v v' : Value) (a b : List (Nat × Nat)) (w : World) (hA : Parts w (RC p v a)) (hB : Parts w (RC q v' b)) (ha : RgOK 65536 a) (hb : RgOK 65536 b) (hb0 : 0 < b.length) :
    Calls Tryz.prog 236 #[.pointer (some ⟨p, 0, none⟩), .pointer (some ⟨q, 0, none⟩)] w fun ed w' => InterP a b w ed w' := by
  obtain ⟨G, c, _, h1, h2⟩ := RC.look hA
  obtain ⟨G', c', _, h3, h4⟩ := RC.look hB
  rcases Nat.eq_zero_or_pos a.length with h0 | h0
  · obtain rfl := List.eq_nil_of_length_eq_zero h0
    exact intersect0_any p q _ c c' G G' b w h1 h3
  · exact intersect_any p q a b w (h2 h0) (h4 hb0) ha hb h0 hb0
theorem union_all (p q : Nat) (v v' : Value) (a b : List (Nat × Nat)) (w : World) (hA : Parts w (RC p v a)) (hB : Parts w (RC q v' b)) (ha : RgOK 65536 a) (hb : RgOK 65536 b) :
    Calls Tryz.prog 225 #[.pointer (some ⟨p, 0, none⟩), .pointer (some ⟨q, 0, none⟩)] w fun ed w' => UniP a b w ed w' := by
  obtain ⟨G, c, _, h1, h2⟩ := RC.look hA
  obtain ⟨G', c', _, h3, h4⟩ := RC.look hB
  rcases Nat.eq_zero_or_pos a.length with h0 | h0
  · exact unionE_any p q _ _ c c' G G' a b w h1 h3 rfl rfl (.inl h0) h2 h4 ha hb
  · rcases Nat.eq_zero_or_pos b.length with h5 | h5
    · exact unionE_any p q _ _ c c' G G' a b w h1 h3 rfl rfl (.inr h5) h2 h4 ha hb
    · exact unionB_any p q a b w (h2 h0) (h4 h5) ha hb h0 h5
theorem takeOwn_any (v : Value) (w : World) (G : Option Addr) (n c : Nat) (hv : v = .slice G n c) : Calls Tryz.prog 224 #[v] w fun ed w' => ed = .returned (.pointer (some ⟨w.heap.size, 0, none⟩)) ∧ w' = w.alloc (.cells #[v] 112) := by
  subst hv
  go_enter Tryz.func224, Tryz.ntmps224
  go_wp2
  go_ret
  exact ⟨rfl, rfl⟩

/-- What Not answers. -/
def NotRP (l : List Nat) (w : World) (ed : Ending) (w' : World) : Prop := ∃ z v m, ed = .returned (.pointer (some ⟨z, 0, none⟩)) ∧ RgOK 65536 m ∧ rgNums m = l ∧ SS w [] w' (RC z v m)

set_option maxRecDepth 100000 in
set_option maxHeartbeats 4000000 in
theorem rcNotX_any (p : Nat) (v : Value) (rs : List (Nat × Nat)) (s e : Nat) (w : World) (hr : RgOK 65536 rs) (h0 : rs ≠ []) (hse : s < e) (he : e ≤ 65536) (h : Parts w (RC p v rs)) :
    Calls Tryz.prog 227 #[.pointer (some ⟨p, 0, none⟩), .int .i64 (s : Int), .int .i64 (e : Int)] w fun ed w' => NotRP (xorS (rgNums rs) s e) w ed w' := by
  have hp0 := List.length_pos_iff.2 h0
  have hV := Lib.hid (RCV.of h h0)
  have hb : RgOK 65536 [(s, e - 1)] := ⟨by intro r hr; simp at hr; subst hr; exact ⟨show s ≤ e - 1 by omega, show e - 1 < 65536 by omega⟩, by simp⟩
  have i1 : ¬ (e : Int) < (s : Int) := by omega
  have i2 : ¬ (e : Int) ≤ (s : Int) := by omega
  have w1 : IntKind.u16.wrap (s : Int) = (s : Int) := IntWalk.u16_in _ (by omega)
  have w2 : IntKind.u16.wrap ((e : Int) - 1) = ((e - 1 : Nat) : Int) := (IntWalk.u16_in _ (by omega)).trans (by omega)
  have CN := Lib.hid (fun (W : World) => newInterval_any s (e - 1) W (by omega) (by omega))
  have IV := Lib.hid (invert_any p rs w hV.out hr hp0)
  have HF := Lib.hid (fun (m1 m2 m3 m4 : List (Nat × Nat)) k1 k2 k3 k4 ok => not_nums (m1 := m1) (m2 := m2) (m3 := m3) (m4 := m4) hr hse he k1 k2 k3 k4 ok)
  have HR := Lib.hid hr
  have HB := Lib.hid hb
  clear h h0 hr hb
  go_enter Tryz.func227, Tryz.ntmps227
  go_wp2_with (first
    | (go_at_call 235; (with_reducible refine IV.out.mono ?_); rintro ed w1 ⟨z1, v1, m1, rfl, o1, k1, s1⟩; have O1 := Lib.hid o1; have K1 := Lib.hid k1; have S1 := Lib.hid s1; clear o1 k1 s1)
    | (go_at_call 55; (with_reducible refine (CN.out _).mono ?_); rintro ed w2 ⟨rfl, hk⟩; have S2 := Lib.hid (SS.newO (S1.out.quiet hk) 114 (.int .u16 (s : Int)) (.int .u16 ((e - 1 - s : Nat) : Int))); clear hk)
    | (go_at_call 224; refine (takeOwn_any _ _ _ _ _ rfl).mono ?_; rintro ed w3 ⟨rfl, rfl⟩; have S3 := Lib.hid (show SS w [] _ (RC (w2.heap.size + 1) (.slice (some ⟨w2.heap.size, 0, none⟩) 1 1) [(s, e - 1)] ++ RC z1 v1 m1) from (by have h9 := S2.out.new 112 [.slice (some ⟨w2.heap.size, 0, none⟩) 1 1]; rw [World.size_alloc] at h9; exact h9)); have CI := inter_all z1 (w2.heap.size + 1) v1 (.slice (some ⟨w2.heap.size, 0, none⟩) 1 1) m1 [(s, e - 1)] _ S3.out.right.sep S3.out.left.sep O1.out HB.out (by simp))
    | (go_at_call 236; (with_reducible refine CI.mono ?_); clear CI; rintro ed w4 ⟨z4, v4, m4, rfl, o4, k4, s4⟩; have O4 := Lib.hid o4; have K4 := Lib.hid k4; have S4 := Lib.hid (S3.out.join s4); have CA := andNot_any p (w2.heap.size + 1) rs [(s, e - 1)] _ (hV.out.mild (SS.mild S4.out)) (RCV.of S4.out.right.left.sep (by simp)) HR.out HB.out hp0 (by simp); clear o4 k4 s4)
    | (go_at_call 237; (with_reducible refine CA.mono ?_); clear CA; rintro ed w5 ⟨z5, v5, m5, rfl, o5, k5, s5⟩; have O5 := Lib.hid o5; have K5 := Lib.hid k5; have S5 := Lib.hid (S4.out.join s5); have CU := union_all z4 z5 v4 v5 m4 m5 _ S5.out.right.left.sep S5.out.left.sep O4.out O5.out; clear o5 k5 s5)
    | (go_at_call 225; (with_reducible refine CU.mono ?_); clear CU; rintro ed w6 ⟨z6, v6, m6, rfl, o6, k6, s6⟩; have O6 := Lib.hid o6; have K6 := Lib.hid k6; have S6 := Lib.hid (S5.out.join s6).left; clear o6 k6 s6)
    | fail)
  go_ret
  exact ⟨z6, v6, m6, rfl, O6.out, HF.out m1 m4 m5 m6 K1.out K4.out K5.out K6.out O6.out, S6.out⟩

set_option maxRecDepth 100000 in
set_option maxHeartbeats 4000000 in
theorem rcNot_any (p : Nat) (v : Value) (rs : List (Nat × Nat)) (s e : Nat) (w : World) (hr : RgOK 65536 rs) (h0 : rs ≠ []) (hfew : rs.length ≤ 900) (hse : s < e) (he : e ≤ 65536) (h : Parts w (RC p v rs)) :
    Calls Tryz.prog 193 #[.pointer (some ⟨p, 0, none⟩), .int .i64 (s : Int), .int .i64 (e : Int)] w fun ed w' => GiveR (xorS (rgNums rs) s e) (foot (RC p v rs)) w ed w' := by
  have NT := Lib.hid (rcNotX_any p v rs s e w hr h0 hse he h)
  have i1 : ¬ (e : Int) < (s : Int) := by omega
  have hb : ∀ y ∈ rgNums rs, y < 65536 := fun y hy => by
    obtain ⟨r, h1, h2, h3⟩ := (rgNums_mem (fun r h => (hr.1 r h).1) y).1 hy
    have := hr.1 r h1
    omega
  have hlen := runs_xorS (rgNums_rising hr) hb (Nat.le_of_lt hse) he
  rw [runsOf_back hr] at hlen
  have HL := Lib.hid (show (runsOf (xorS (rgNums rs) s e)).length ≤ 1000 by omega)
  have EF := Lib.hid (fun (z : Nat) (v' : Value) (m : List (Nat × Nat)) (W : World) (hm : RgOK 65536 m) (hne : m ≠ []) (he : rgNums m = xorS (rgNums rs) s e) (hP : Parts W (RC z v' m)) => rcEff_any z v' m W hm hne (by have := HL.out; rw [← he, runsOf_back hm] at this; exact this) hP)
  clear h hb hlen
  generalize xorS (rgNums rs) s e = l' at *
  by_cases hl : l' = []
  · subst hl
    go_enter Tryz.func193, Tryz.ntmps193
    go_wp2_with (first
      | (go_at_call 227; (with_reducible refine NT.out.mono ?_); rintro ed w1 ⟨z1, v1, m1, rfl, o1, k1, s1⟩; obtain rfl : m1 = [] := (by rw [← runsOf_back o1, k1]; rfl); have S1 := Lib.hid s1; obtain ⟨G, C, rfl, hc, -⟩ := RC.look s1.sep; have HC := Lib.hid hc; clear o1 k1 s1 hc)
      | (go_at_call 49; (with_reducible refine (rcEff0_any z1 C G _ HC.out).mono ?_); rintro ed w2 ⟨rfl, rfl⟩)
      | fail)
    go_ret
    refine ⟨_, _, AC w1.heap.size (.slice none 0 0) [], rfl, .inl (.inr ⟨rfl, _, _, rfl, rfl⟩), ?_⟩
    have h1 := (SS.new (SS.right (L := RC z1 (.slice G 0 C) []) (M := []) (by simpa using S1.out)) 106 [.slice none 0 0]).wide (foot (RC p v rs))
    unfold AC
    refine ⟨⟨fun A hA => ?_, by simp [O, B]⟩, fun b hb => h1.sub b (by simpa [O, B] using hb), h1.kept⟩
    simp only [List.mem_cons, List.not_mem_nil, or_false] at hA
    rcases hA with rfl | rfl
    · exact h1.get (by simp)
    · exact ⟨rfl, .inl ⟨rfl, rfl⟩⟩
  · go_enter Tryz.func193, Tryz.ntmps193
    go_wp2_with (first
      | (go_at_call 227; (with_reducible refine NT.out.mono ?_); rintro ed w1 ⟨z1, v1, m1, rfl, o1, k1, s1⟩; have hne : m1 ≠ [] := (fun h => hl (by rw [← k1, h]; rfl)); have EG := Lib.hid (EF.out z1 v1 m1 w1 o1 hne k1 s1.sep); have K1 := Lib.hid k1; have S1 := Lib.hid s1; clear o1 k1 s1 hne)
      | (go_at_call 49; (with_reducible refine EG.out.mono ?_); rintro ed w2 ⟨t2, v2, L2, rfl, q1, q2⟩)
      | fail)
    go_ret
    rw [K1.out] at q1
    exact ⟨_, _, L2, rfl, .inl (.inl ⟨_, q1⟩), (S1.out.on q2).wide _⟩
end Go.Proofs

namespace Go.Proofs
open Go.RowKit Go.Roar
theorem ahead_ac_not (a : Addr) (w : World) : (nilAhead 318 82 (.pointer (some a)) "loop.example/pub-g03248/pub/roaring.inot").run Tryz.prog w = .ok (some false) w := by kernel_rfl
theorem method_ac_not (a : Addr) (w : World) : (method 318 82 (.pointer (some a)) "loop.example/pub-g03248/pub/roaring.inot").run Tryz.prog w = .ok (122, .pointer (some a)) w := by kernel_rfl
theorem call_ac_not (v : Value) (s : Int) (e : Int) (w : World) : (callFunc 122 #[v, .int .i64 s, .int .i64 e]).run Tryz.prog w = .ok (.enter 122 #[v, .int .i64 s, .int .i64 e]) w := by kernel_rfl
theorem ahead_bc_not (a : Addr) (w : World) : (nilAhead 318 99 (.pointer (some a)) "loop.example/pub-g03248/pub/roaring.inot").run Tryz.prog w = .ok (some false) w := by kernel_rfl
theorem method_bc_not (a : Addr) (w : World) : (method 318 99 (.pointer (some a)) "loop.example/pub-g03248/pub/roaring.inot").run Tryz.prog w = .ok (156, .pointer (some a)) w := by kernel_rfl
theorem call_bc_not (v : Value) (s : Int) (e : Int) (w : World) : (callFunc 156 #[v, .int .i64 s, .int .i64 e]).run Tryz.prog w = .ok (.enter 156 #[v, .int .i64 s, .int .i64 e]) w := by kernel_rfl
theorem ahead_rc_not (a : Addr) (w : World) : (nilAhead 318 90 (.pointer (some a)) "loop.example/pub-g03248/pub/roaring.inot").run Tryz.prog w = .ok (some false) w := by kernel_rfl
theorem method_rc_not (a : Addr) (w : World) : (method 318 90 (.pointer (some a)) "loop.example/pub-g03248/pub/roaring.inot").run Tryz.prog w = .ok (193, .pointer (some a)) w := by kernel_rfl
theorem call_rc_not (v : Value) (s : Int) (e : Int) (w : World) : (callFunc 193 #[v, .int .i64 s, .int .i64 e]).run Tryz.prog w = .ok (.enter 193 #[v, .int .i64 s, .int .i64 e]) w := by kernel_rfl
/-- The method inot of a container. -/
theorem kc_not {c : Value} {l : List Nat} {k : Nat} {L : List HA} (h : KC c l k L) (hfew : (runsOf l).length ≤ 900) : ∃ (tt : TypeId) (a : Addr) (fn : Nat), c = .iface tt (.pointer (some a)) ∧
    (∀ w, (nilAhead 318 tt (.pointer (some a)) "loop.example/pub-g03248/pub/roaring.inot").run Tryz.prog w = .ok (some false) w) ∧
    (∀ w, (method 318 tt (.pointer (some a)) "loop.example/pub-g03248/pub/roaring.inot").run Tryz.prog w = .ok (fn, .pointer (some a)) w) ∧
    (∀ (s e : Int) (w : World), (callFunc fn #[.pointer (some a), .int .i64 s, .int .i64 e]).run Tryz.prog w = .ok (.enter fn #[.pointer (some a), .int .i64 s, .int .i64 e]) w) ∧
    ∀ (s e : Nat) (w : World), s < e → e ≤ 65536 → Parts w L → Calls Tryz.prog fn #[.pointer (some a), .int .i64 (s : Int), .int .i64 (e : Int)] w fun ed w' => GiveR (xorS l s e) (foot L) w ed w' := by
  cases h with
  | arr p v _ hs hb h0 hn => exact ⟨_, _, _, rfl, fun w => ahead_ac_not _ w, fun w => method_ac_not _ w, fun s e w => call_ac_not _ s e w, fun s e w hse he hp => acNot_any p v l s e w hs hb h0 hn hse he hp⟩
  | bmp p g c ws _ hl hb h0 hx => exact ⟨_, _, _, rfl, fun w => ahead_bc_not _ w, fun w => method_bc_not _ w, fun s e w => call_bc_not _ s e w, fun s e w hse he hp => bcNot_any p g c ws l s e w hl hb hx hse he hp⟩
  | run p v rs _ hr h0 hx => exact ⟨_, _, _, rfl, fun w => ahead_rc_not _ w, fun w => method_rc_not _ w, fun s e w => call_rc_not _ s e w, fun s e w hse he hp => by
      rw [← hx]; exact rcNot_any p v rs s e w hr h0 (by rw [← hx, runsOf_back hr] at hfew; exact hfew) hse he hp⟩
/-- The method isEmpty of a container that may be empty. -/
theorem kr_empty {c : Value} {l : List Nat} {L : List HA} (h : KR c l L) : ∃ (tt : TypeId) (a : Addr) (fn : Nat), c = .iface tt (.pointer (some a)) ∧
    (∀ w, (nilAhead 318 tt (.pointer (some a)) "loop.example/pub-g03248/pub/roaring.isEmpty").run Tryz.prog w = .ok (some false) w) ∧
    (∀ w, (method 318 tt (.pointer (some a)) "loop.example/pub-g03248/pub/roaring.isEmpty").run Tryz.prog w = .ok (fn, .pointer (some a)) w) ∧
    (∀ (w : World), (callFunc fn #[.pointer (some a)]).run Tryz.prog w = .ok (.enter fn #[.pointer (some a)]) w) ∧
    ∀ (w : World), Parts w L → Calls Tryz.prog fn #[.pointer (some a)] w fun ed w' => ed = .returned (.bool (decide (l = []))) ∧ w = w' := by
  rcases h with h | ⟨rfl, p, v, rfl, rfl⟩
  · exact ke_empty h
  · exact ⟨_, _, _, rfl, fun w => ahead_rc_emp _ w, fun w => method_rc_emp _ w, fun w => call_rc_emp _ w, fun w hp => by
      have ho : Own w 2 114 v 0 [] := hp.all (O 2 114 v 0 []) (by simp [RC, ivs])
      have hB : Blk w p 112 [v] := hp.all (B p 112 [v]) (by simp [RC])
      obtain ⟨G, c, rfl, _⟩ := Own.sliceOf ho
      exact rcEmpty_any p 0 c _ w (hB.cell 0)⟩
end Go.Proofs
