/-
  bitmapContainer.contains, iremove, iremoveReturnMinimized: one number is taken out of bits.
  arrayContainer.iremove, iremoveReturnMinimized: one number is taken out of an array of numbers.
-/
import Derived.Test.YteagcndpegdojaaGreatDoorJAo
import Derived.Test.YteagcndpegdojaaGreatDoorJKo
import Derived.Test.YteagcndpegdojaaGreatDoorJLsb
import Derived.Test.YteagcndpegdojaaGreatDoorJBn
import Derived.Test.YteagcndpegdojaaGreatDoorJHeap
import Derived.Deep.RegionHeld3
namespace Go.Roar
open Go.RowKit Go.Proofs
/-- A container, or an array that has no numbers left. -/
def KE (c : Value) (l : List Nat) (L : List HA) : Prop := (∃ k, KC c l k L) ∨ (l = [] ∧ ∃ p v, c = .iface 118 (.pointer (some ⟨p, 0, none⟩)) ∧ L = AC p v [])
theorem KE.some {c : Value} {l : List Nat} {L : List HA} (h : KE c l L) (hne : l ≠ []) : ∃ k, KC c l k L := by
  rcases h with h | ⟨h, _⟩
  · exact h
  · exact absurd h hne
/-- What taking a number out of a container leads to. -/
def RemPost (l : List Nat) (x : Nat) (F : List Nat) (w : World) (ed : Ending) (w' : World) : Prop :=
  ∃ t v L, ed = .returned (.iface t v) ∧ KE (.iface t v) (wo l x) L ∧ SS w F w' L
end Go.Roar
namespace Go.Proofs
open Go.RowKit Go.Roar
theorem and63 : ∀ m : Fin 1024, ∀ k : Fin 64, bits .and .u64 ((64 * m.val + k.val : Nat) : Int) 63 = (k.val : Int) := by decide +kernel
theorem and63n (x : Nat) (hx : x < 65536) : bits .and .u64 (x : Int) 63 = ((x % 64 : Nat) : Int) := by
  have := and63 ⟨x / 64, by omega⟩ ⟨x % 64, by omega⟩
  simpa [Nat.div_add_mod] using this

set_option maxRecDepth 100000 in
theorem bcHas_any (p g c : Nat) (ws : List Nat) (x y : Nat) (w : World) (hy : ws[x / 64]? = some y) (hyl : y < 18446744073709551616) (hx : x < 65536)
    (h1 : w.cell? ⟨p, 1, none⟩ = some (.slice (some ⟨g, 0, none⟩) 1024 c)) (h2 : w.cell? ⟨g, x / 64, none⟩ = some (.int .u64 (y : Int))) :
    Calls Tryz.prog 183 #[.pointer (some ⟨p, 0, none⟩), .int .u16 (x : Int)] w fun ed w' => ed = .returned (.bool (bitOf ws x)) ∧ w = w' := by
  have HB := Lib.hid ((bitOf_wordR hy).trans (one_bit y (k := x % 64)).symm)
  obtain ⟨s1, s2⟩ := shl_one ⟨x % 64, by omega⟩
  dsimp only at s1 s2
  have a1 := and63n x hx
  obtain ⟨M, hM⟩ : ∃ M, M = y &&& 2 ^ (x % 64) := ⟨_, rfl⟩
  have e1 : bits .and .u64 (y : Int) (IntKind.u64.wrap (2 ^ (x % 64))) = (M : Int) := by rw [s1, hM]; exact and64 _ _ hyl s2
  have HM := Lib.hid hM
  clear hM s1 s2 hy
  go_enter Tryz.func183, Tryz.ntmps183
  go_wp2_with fail
  go_ret
  refine ⟨?_, rfl⟩
  have hb : ((M : Int) != 0) = decide (M ≠ 0) := by by_cases h : M = 0 <;> simp [h]
  show Ending.returned (Value.bool ((M : Int) != 0)) = _
  rw [HB.out, ← HM.out, hb]

set_option maxRecDepth 100000 in
set_option maxHeartbeats 1000000 in
theorem bcIrem_any (p g c : Nat) (ws l : List Nat) (x : Nat) (w : World) (hl : ws.length = 1024) (hb : ∀ y ∈ ws, y < 18446744073709551616) (h0 : restFrom (bitOf ws) 0 = l) (hx : x < 65536)
    (h : Parts w (BC p l.length (.slice (some ⟨g, 0, none⟩) 1024 c) ws)) :
    Calls Tryz.prog 200 #[.pointer (some ⟨p, 0, none⟩), .int .u16 (x : Int)] w fun ed w' => ed = .returned (.bool (decide (x ∈ l))) ∧ ∃ ws', ws'.length = 1024 ∧ (∀ y ∈ ws', y < 18446744073709551616) ∧ restFrom (bitOf ws') 0 = wo l x ∧
      SS w (foot (BC p l.length (.slice (some ⟨g, 0, none⟩) 1024 c) ws)) w' (BC p (wo l x).length (.slice (some ⟨g, 0, none⟩) 1024 c) ws') := by
  have S0 := SS.init h
  have HS0 := Lib.hid S0
  generalize foot (BC p l.length (.slice (some ⟨g, 0, none⟩) 1024 c) ws) = F at *
  have hsl : Rising l := by rw [← h0]; exact rest_sorted _
  have hlen : l.length ≤ 65536 := by rw [← h0]; exact sorted_count (rest_sorted _) 65536 (rest_lt _)
  obtain ⟨y, hy⟩ : ∃ y, ws[x / 64]? = some y := ⟨_, List.getElem?_eq_getElem (by omega)⟩
  have hgy : ws.getD (x / 64) 0 = y := by rw [List.getD_eq_getElem?_getD, hy]; rfl
  have hyl := hb y (List.mem_of_getElem? hy)
  have hmem : bitOf ws x = decide (x ∈ l) := by
    rw [Bool.eq_iff_iff, decide_eq_true_eq, ← h0, rest_mem]
    exact ⟨fun h => ⟨hx, h⟩, fun h => h.2⟩
  have HN := Lib.hid (off_nums hl hx)
  rw [h0] at HN
  simp only [BC] at S0
  have c0 := S0.cell 0 rfl 0 rfl
  have c1 := S0.cell 0 rfl 1 rfl
  have f0 := S0.free 0 rfl 0
  have ca := (Own.cellAt (S0.get (A := O 1 62 (.slice (some ⟨g, 0, none⟩) 1024 c) 1024 (u64s ws)) (by simp)) (u64s_get hy)).1
  have HC := bcHas_any p g c ws x y w hy hyl hx c1 ca
  rw [hmem] at HC
  by_cases hm : x ∈ l
  · rw [decide_eq_true hm] at HC ⊢
    have HC := Lib.hid HC
    have hw := wo_length hsl hm
    obtain ⟨m, hmm⟩ : ∃ m, m = (wo l x).length := ⟨_, rfl⟩
    rw [← hmm] at hw ⊢
    obtain ⟨s1, s2⟩ := shl_one ⟨x % 64, by omega⟩
    dsimp only at s1 s2
    obtain ⟨Z, hZ⟩ : ∃ Z, Z = y &&& (18446744073709551615 - 2 ^ (x % 64)) := ⟨_, rfl⟩
    have hZl := off_lt y (x % 64) hyl
    rw [← hZ] at hZl
    have e1 : bits .andNot .u64 (y : Int) (IntKind.u64.wrap (2 ^ (x % 64))) = (Z : Int) := by rw [s1, hZ]; exact u64_andNot_nat _ _ hyl s2
    have HZ := Lib.hid (show ws.set (x / 64) Z = offAt ws (x / 64) (x % 64) by unfold offAt; rw [hgy, hZ])
    have q1 : (l.length : Int) - 1 = (m : Int) := by omega
    have S1 := SS.store (L := []) S0 0 (.int .i64 (m : Int))
    have d0 := S1.cell 0 rfl 0 rfl
    have d1 := S1.cell 0 rfl 1 rfl
    have da := Own.cellAt (S1.get (A := O 1 62 (.slice (some ⟨g, 0, none⟩) 1024 c) 1024 (u64s ws)) (by simp)) (u64s_get hy)
    have S2 := Lib.hid (SS.storeO (L := [B p 143 [.int .i64 (m : Int), .slice (some ⟨g, 0, none⟩) 1024 c]]) (R := []) S1 (x / 64) (by simp [u64s]; omega) (.int .u64 (Z : Int)))
    have HB := Lib.hid hb
    have HL := Lib.hid hl
    clear s1 s2 hZ hmm hw hmem hgy hy h0 h S0 S1 hb hl hm hsl c1 ca hyl
    go_enter Tryz.func200, Tryz.ntmps200
    go_wp2_with (first
      | (go_at_call 183; (with_reducible refine HC.out.mono ?_); rintro ed w1 ⟨rfl, rfl⟩)
      | fail)
    go_ret
    have S3 := S2.out
    rw [u64s_set, HZ.out] at S3
    refine ⟨rfl, offAt ws (x / 64) (x % 64), by unfold offAt; simp [HL.out], ?_, HN.out, S3⟩
    rw [← HZ.out]
    intro z hz
    rcases List.mem_or_eq_of_mem_set hz with hz | rfl
    · exact HB.out z hz
    · exact hZl
  · rw [decide_eq_false hm] at HC ⊢
    have HC := Lib.hid HC
    have HR := Lib.hid (And.intro hl (And.intro hb (And.intro h0 (wo_none hm))))
    clear hmem hgy hy h0 h S0 hb hl hm hsl c1 ca c0 f0 hyl HN
    go_enter Tryz.func200, Tryz.ntmps200
    go_wp2_with (first
      | (go_at_call 183; (with_reducible refine HC.out.mono ?_); rintro ed w1 ⟨rfl, rfl⟩)
      | fail)
    go_ret
    rw [HR.out.2.2.2]
    exact ⟨rfl, ws, HR.out.1, HR.out.2.1, HR.out.2.2.1, HS0.out⟩

set_option maxRecDepth 100000 in
set_option maxHeartbeats 1000000 in
theorem bcRem_any (p g c : Nat) (ws l : List Nat) (x : Nat) (w : World) (hl : ws.length = 1024) (hb : ∀ y ∈ ws, y < 18446744073709551616) (h0 : 4096 < l.length) (hx0 : restFrom (bitOf ws) 0 = l) (hx : x < 65536)
    (h : Parts w (BC p l.length (.slice (some ⟨g, 0, none⟩) 1024 c) ws)) :
    Calls Tryz.prog 202 #[.pointer (some ⟨p, 0, none⟩), .int .u16 (x : Int)] w fun ed w' => RemPost l x (foot (BC p l.length (.slice (some ⟨g, 0, none⟩) 1024 c) ws)) w ed w' := by
  have hsl : Rising l := by rw [← hx0]; exact rest_sorted _
  have hbl : ∀ y ∈ l, y < 65536 := by rw [← hx0]; exact rest_lt _
  have IR := bcIrem_any p g c ws l x w hl hb hx0 hx h
  have HW := Lib.hid (And.intro (wo_rising hsl x) (wo_lt hbl x))
  have TA := Lib.hid (fun (ws' : List Nat) (W : World) (s1 : ws'.length = 1024) (s2 : ∀ y ∈ ws', y < 18446744073709551616) (s3 : restFrom (bitOf ws') 0 = wo l x) (hP : Parts W (BC p (wo l x).length (.slice (some ⟨g, 0, none⟩) 1024 c) ws')) => bcToArr_any p g c ws' (wo l x) W s1 s2 s3 hP)
  have hmax : l.length ≤ 65536 := sorted_count hsl 65536 hbl
  unfold RemPost
  generalize foot (BC p l.length (.slice (some ⟨g, 0, none⟩) 1024 c) ws) = F at *
  by_cases hm : x ∈ l
  · rw [decide_eq_true hm] at IR
    have IR := Lib.hid IR
    have hw := wo_length hsl hm
    generalize hmm : (wo l x).length = m at *
    have Hm := Lib.hid hmm
    clear h hb hx0 hsl hbl hm hmm hl
    by_cases hc : m = 4096
    · have hcI : ((m : Int) == 4096) = true := by rw [beq_iff_eq]; omega
      have i2 : (m : Int) = 4096 := by omega
      have Hc := Lib.hid hc
      clear hc hw h0
      go_enter Tryz.func202, Tryz.ntmps202
      go_wp2_with (first
        | (go_at_call 200; (with_reducible refine IR.out.mono ?_); rintro ed w1 ⟨rfl, ws', s1, s2, s3, s4⟩; have S4 := Lib.hid s4; have k0 := s4.cell 0 rfl 0 rfl; have TA2 := Lib.hid (TA.out ws' w1 s1 s2 s3 s4.sep); clear s1 s2 s3 s4)
        | (go_at_call 227; (with_reducible refine TA2.out.mono ?_); rintro ed w2 ⟨q, v, rfl, hS⟩; have S5 := Lib.hid (SS.join S4.out hS); clear hS)
        | fail)
      go_ret
      have hne : wo l x ≠ [] := fun e => by
        have := Hm.out
        rw [e, Hc.out] at this
        cases this
      exact ⟨_, _, _, rfl, .inl ⟨0, KC.arr q v _ HW.out.1 HW.out.2 hne (by rw [Hm.out, Hc.out]; exact Nat.le_refl _)⟩, S5.out.left⟩
    · have i1 : ((m : Int) == 4096) = false := by rw [beq_eq_false_iff_ne]; omega
      have i2 : ¬ (m : Int) = 4096 := by omega
      have i3 : 4096 < m := by omega
      clear hc hw h0
      go_enter Tryz.func202, Tryz.ntmps202
      go_wp2_with (first
        | (go_at_call 200; (with_reducible refine IR.out.mono ?_); rintro ed w1 ⟨rfl, ws', s1, s2, s3, s4⟩; have S4 := Lib.hid s4; have k0 := s4.cell 0 rfl 0 rfl; have T := Lib.hid (And.intro s1 (And.intro s2 s3)); clear s1 s2 s3 s4)
        | fail)
      go_ret
      have S5 := S4.out
      rw [← Hm.out] at S5
      exact ⟨_, _, _, rfl, .inl ⟨1, KC.bmp p g c ws' _ T.out.1 T.out.2.1 (by rw [Hm.out]; exact i3) T.out.2.2⟩, S5⟩
  · rw [decide_eq_false hm] at IR
    have IR := Lib.hid IR
    have HN := Lib.hid (wo_none hm)
    clear h hb hx0 hsl hbl hm hl
    go_enter Tryz.func202, Tryz.ntmps202
    go_wp2_with (first
      | (go_at_call 200; (with_reducible refine IR.out.mono ?_); rintro ed w1 ⟨rfl, ws', s1, s2, s3, s4⟩; have S4 := Lib.hid s4; have T := Lib.hid (And.intro s1 (And.intro s2 s3)); clear s1 s2 s3 s4)
      | fail)
    go_ret
    exact ⟨_, _, _, rfl, .inl ⟨1, KC.bmp p g c ws' _ T.out.1 T.out.2.1 (by rw [HN.out]; exact h0) T.out.2.2⟩, S4.out⟩
end Go.Proofs

namespace Go.Proofs
open Go.RowKit Go.Roar
attribute [local go_sem ↓] Go.wp_at_zero Go.wp_at_succ

theorem u16s_cut (l : List Nat) (i : Nat) : (u16s l).take i ++ (u16s l).drop (i + 1) = u16s (l.take i ++ l.drop (i + 1)) := by
  simp [u16s, List.map_take, List.map_drop]
theorem u16s_src2 {w : World} {l : List Nat} {g n c k : Nat} (hn : l.length = n) (hc : n ≤ c) (h : Own w 1 39 (.slice (some ⟨g, 0, none⟩) n c) n (u16s l)) :
    ∀ (j : Nat) (u : Value), ((u16s l).drop k)[j]? = some u → w.cell? ((tlA g 0 k c 1).add j) = some u := by
  rcases Nat.lt_or_ge k n with hlt | hge
  · exact Own.src h k 1 (by omega) _ drop_src0
  · intro j u hj
    rw [List.drop_eq_nil_of_le (by simp [u16s]; omega)] at hj
    simp at hj

set_option maxRecDepth 100000 in
set_option maxHeartbeats 4000000 in
theorem acIrem_any (p : Nat) (v : Value) (l : List Nat) (x : Nat) (w : World) (hs : Rising l) (hb : ∀ y ∈ l, y < 65536) (hl : l.length ≤ 4096) (hx : x < 65536) (h : Parts w (AC p v l)) :
    Calls Tryz.prog 263 #[.pointer (some ⟨p, 0, none⟩), .int .u16 (x : Int)] w fun ed w' => ed = .returned (.bool (decide (x ∈ l))) ∧ ∃ v', SS w (foot (AC p v l)) w' (AC p v' (wo l x)) := by
  obtain ⟨iU, zu1, zu2, zu3, zu4⟩ := info_parts infoU16
  have ho : Own w 1 39 v l.length (u16s l) := h.all (O 1 39 v l.length (u16s l)) (by simp [AC])
  have S0 := SS.init h
  have HS0 := Lib.hid S0
  have C1 := bs_own v l x w hs hb (by omega) hx ho
  by_cases hm : x ∈ l
  · rw [decide_eq_true hm]
    have hpos := List.length_pos_of_mem hm
    obtain ⟨g, c, rfl, hc1, hc2⟩ := Own.shape ho hpos
    generalize foot (AC p (.slice (some ⟨g, 0, none⟩) l.length c) l) = F at *
    simp only [AC] at S0
    have c0 := S0.cell 0 rfl 0 rfl
    have f0 := S0.free 0 rfl 0
    have hat := (mem_lb hs).1 hm
    have hbs : bsOf l x = (lb l x : Int) := by unfold bsOf; rw [if_pos hat]
    rw [hbs] at C1
    have hil := (List.getElem?_eq_some_iff.1 hat).1
    have HW := Lib.hid (wo_at hs hat)
    have hwl := wo_length hs hm
    obtain ⟨i, hi⟩ : ∃ i, i = lb l x := ⟨_, rfl⟩
    rw [← hi] at hil C1 HW
    have C1 := Lib.hid C1
    obtain ⟨ys, -, -, hy3, S1⟩ := SS.reslice (L := [B p 120 [.slice (some ⟨g, 0, none⟩) l.length c]]) (R := []) (m := i) S0 (by omega)
    have HY := Lib.hid (hy3 (by omega))
    have HS1 := Lib.hid S1.drew
    have HO := Lib.hid (show Own w.drew 1 39 (.slice (some ⟨g, 0, none⟩) l.length c) l.length (u16s l) from S0.drew.get (A := O 1 39 (.slice (some ⟨g, 0, none⟩) l.length c) l.length (u16s l)) (by simp))
    generalize hn : l.length = n at *
    have Hn := Lib.hid hn
    have HWL := Lib.hid (show (wo l x).length = i + (n - (i + 1)) by omega)
    have q1 : IntKind.i64.wrap ((i : Int) + 1) = (i : Int) + 1 := IntWalk.i64_in _ (by omega)
    have i3 : (0 : Int) ≤ (i : Int) := by omega
    have s1 := fun (W : World) => run_slice_from (P := Tryz.prog) W undU16s szU16 g 0 n c (i + 1) .i64 ((i : Int) + 1) (by omega) (by omega)
    have s3 := fun (W : World) => run_slice_to (P := Tryz.prog) W undU16s szU16 (some ⟨g, 0, none⟩) n c i .i64 (i : Int) rfl (by omega)
    clear hn hi ho hm hat hbs h S0 S1 hy3 hwl hs hb
    go_enter Tryz.func263, Tryz.ntmps263
    go_wp2_with (first
      | (go_at_call 72; refine C1.out.mono ?_; rintro ed w' ⟨rfl, rfl⟩)
      | (at_builtin; refine wpList_append_ss rfl (.tmp 21) (.tmp 25) 37 rfl 39 iU (.int .u16 0) 1 2 undU16s zu1 zu2 zu3 zu4 rfl (by decide) w F [B p 120 [.slice (some ⟨g, 0, none⟩) n c]] [] (.slice (some ⟨g, 0, none⟩) i c) i ys rfl HS1.out (tlA g 0 (i + 1) c 1) (n - (i + 1)) (c - (i + 1)) ((u16s l).drop (i + 1)) rfl (by simp [u16s, Hn.out]) (u16s_src2 Hn.out hc1 HO.out) (fun v hv => u16s_one l v (List.mem_of_mem_drop hv)) (by unfold maxLen; omega) (by omega) ?_; intro v7 w7 S7; obtain ⟨G7, c7, rfl, _⟩ := Own.sliceOf (S7.get (A := O 1 39 v7 (i + (n - (i + 1))) (ys ++ (u16s l).drop (i + 1))) (by simp)); have r6 := S7.cell 0 rfl 0 rfl; have r7 := S7.free 0 rfl 0; have S8 := Lib.hid (SS.store (L := []) S7 0 (.slice G7 (i + (n - (i + 1))) c7)); clear S7)
      | (refine wp_region_tail 7 (by kernel_rfl) (by decide +kernel) ?_; simp only [List.take_succ_cons, List.take_zero, List.drop_succ_cons, List.drop_zero]; repeat still_step; try (refine wpStill_nil ?_; show wpList _ _ _ _ _ _))
      | fail)
    all_goals go_ret
    all_goals
      have S9 := S8.out
      rw [HY.out, Nat.mul_one, u16s_cut, ← HW.out] at S9
      have hL : ([B p 120 [.slice G7 (i + (n - (i + 1))) c7], O 1 39 (.slice G7 (i + (n - (i + 1))) c7) (i + (n - (i + 1))) (u16s (wo l x))] : List HA) = AC p (.slice G7 (i + (n - (i + 1))) c7) (wo l x) := by
        unfold AC
        rw [HWL.out]
      exact ⟨rfl, .slice G7 (i + (n - (i + 1))) c7, by rw [← hL]; exact S9⟩
  · rw [decide_eq_false hm]
    have hnot : l[lb l x]? ≠ some x := fun e => hm ((mem_lb hs).2 e)
    rw [bsOf_not hnot] at C1
    have HN := Lib.hid (wo_none hm)
    have hlb := lb_le l x
    obtain ⟨A, c, rfl, -⟩ := Own.sliceOf ho
    generalize foot (AC p (.slice A l.length c) l) = F at *
    simp only [AC] at S0
    have c0 := S0.cell 0 rfl 0 rfl
    generalize lb l x = i at *
    have C1 := Lib.hid C1
    have i3 : ¬ (0 : Int) ≤ - ((i : Int) + 1) := by omega
    clear hnot hm ho h S0 hs hb
    go_enter Tryz.func263, Tryz.ntmps263
    go_wp2_with (first
      | (go_at_call 72; refine C1.out.mono ?_; rintro ed w' ⟨rfl, rfl⟩)
      | fail)
    go_ret
    rw [HN.out]
    exact ⟨rfl, _, HS0.out⟩

set_option maxRecDepth 100000 in
set_option maxHeartbeats 1000000 in
theorem acRem_any (p : Nat) (v : Value) (l : List Nat) (x : Nat) (w : World) (hs : Rising l) (hb : ∀ y ∈ l, y < 65536) (hl : l.length ≤ 4096) (hx : x < 65536) (h : Parts w (AC p v l)) :
    Calls Tryz.prog 265 #[.pointer (some ⟨p, 0, none⟩), .int .u16 (x : Int)] w fun ed w' => RemPost l x (foot (AC p v l)) w ed w' := by
  have IR := Lib.hid (acIrem_any p v l x w hs hb hl hx h)
  have HW := Lib.hid (And.intro (wo_rising hs x) (wo_lt hb x))
  have HL := Lib.hid (Nat.le_trans (List.length_filter_le (fun y => decide (y ≠ x)) l) hl)
  unfold RemPost
  generalize foot (AC p v l) = F at *
  clear h hs hb
  generalize decide (x ∈ l) = b at *
  go_enter Tryz.func265, Tryz.ntmps265
  go_wp2_with (first
    | (go_at_call 263; (with_reducible refine IR.out.mono ?_); rintro ed w1 ⟨rfl, v', hS⟩; have S1 := Lib.hid hS; clear hS)
    | fail)
  go_ret
  refine ⟨_, _, _, rfl, ?_, S1.out⟩
  by_cases he : wo l x = []
  · exact .inr ⟨he, p, v', rfl, by rw [he]⟩
  · exact .inl ⟨0, KC.arr p v' _ HW.out.1 HW.out.2 he HL.out⟩
end Go.Proofs
