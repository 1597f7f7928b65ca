/-
  roaring.Or of a set and the empty set.
  impl.told of a set in memory; impl.Or on a small set, laws.some.
-/
import Derived.Test.YteagcndpegdojaaGreatDoorJAp
import Derived.Test.YteagcndpegdojaaGreatDoorJMd
import Derived.Test.YteagcndpegdojaaGreatDoorKTd
import Derived.WalkMore
namespace Go.Proofs
open Go.RowKit Go.Roar
theorem newBm_any (w : World) : Calls Tryz.prog 44 #[] w fun e w' => e = .returned (.pointer (some ⟨w.heap.size, 0, none⟩)) ∧ w' = w.alloc (.cells #[.slice none 0 0, .slice none 0 0, .slice none 0 0, .bool false] 71) := by
  go_enter Tryz.func44, Tryz.ntmps44
  go_wp2
  go_ret
  exact ⟨rfl, rfl⟩

set_option maxRecDepth 100000 in
set_option maxHeartbeats 4000000 in
theorem orEmpty_any (p1 p2 : Nat) (t1 : TypeId) (vk1 vc1 vw1 : Value) (q1 : List Kon) (w : World) (h1 : q1.length ≤ 65536) (h0 : 0 < q1.length) (h : Parts w (BMP p1 t1 vk1 vc1 vw1 q1)) (G2 : Option Addr) (c2' : Nat) (h2 : w.cell? ⟨p2, 0, none⟩ = some (.slice G2 0 c2')) :
    Calls Tryz.prog 36 #[.pointer (some ⟨p1, 0, none⟩), .pointer (some ⟨p2, 0, none⟩)] w fun e w' => ∃ p vk vc vw q', e = .returned (.pointer (some ⟨p, 0, none⟩)) ∧
      SS w (foot (BMP p1 t1 vk1 vc1 vw1 q1)) w' (BMP p 71 vk vc vw q') ∧ q'.map kon3 = q1.map kon3 := by
  have hra := RA.of (Parts.left h)
  obtain ⟨Gk, ck, hvk, _⟩ := hra.keys.sliceOf
  rw [List.length_map] at hvk
  have S0 : SS w (foot (BMP p1 t1 vk1 vc1 vw1 q1)) (w.alloc (.cells #[.slice none 0 0, .slice none 0 0, .slice none 0 0, .bool false] 71)) (BMP w.heap.size 71 (.slice none 0 0) (.slice none 0 0) (.slice none 0 0) [] ++ BMP p1 t1 vk1 vc1 vw1 q1) := by
    have := (((((SS.init h).join (SS.bare w 1 4)).join (SS.bare w 1 74)).join (SS.bare w 1 39))).new 71 [.slice none 0 0, .slice none 0 0, .slice none 0 0, .bool false]
    exact this
  have m1 : Mild w (w.alloc (.cells #[.slice none 0 0, .slice none 0 0, .slice none 0 0, .bool false] 71)) := (Kept.refl _ _).alloc _
  have b0 := m1.cell2 id h2
  have hra1 := RA.of (Parts.left (S0.right.sep))
  have c0 := hra1.k
  have c1 := hra1.c
  have c2 := hra1.w
  obtain ⟨tt, hblk⟩ := hra1.blk
  have c3 := hblk.cell 3
  simp only [List.getElem?_cons_zero, List.getElem?_cons_succ] at c3
  have AM0 := (appendMany_any w.heap.size p1 71 t1 (.slice none 0 0) (.slice none 0 0) (.slice none 0 0) vk1 vc1 vw1 [] q1 0 _ (Nat.zero_le _) h1 (by simpa using h1) S0.drew.sep)
  rw [show ((0 : Nat) : Int) = 0 from rfl] at AM0
  have AM := Lib.hid AM0
  clear AM0
  have HS0 := Lib.hid S0
  rw [hvk] at c0 AM HS0 ⊢
  clear S0 hra hra1 hblk h
  generalize hn : q1.length = n at *
  clear hn
  have n0 : ((0 : Int) == (n : Int)) = false := by rw [beq_eq_false_iff_ne]; omega
  have n1 : ¬ (0 : Int) = (n : Int) := by omega
  go_enter Tryz.func36, Tryz.ntmps36
  go_wp2_with fail
  go_step3
  go_wp2_with (first
    | (go_at_call 44; refine (newBm_any _).mono ?_; rintro ed w1 ⟨rfl, rfl⟩)
    | (go_at_call 45; first | (refine (raSize_any p1 _ n ck _ c0).mono ?_; rintro ed w1 ⟨rfl, rfl⟩) | (refine (raSize_any p2 G2 0 c2' _ b0).mono ?_; rintro ed w1 ⟨rfl, rfl⟩))
    | fail)
  generalize (w.alloc (Obj.cells #[Value.slice none 0 0, Value.slice none 0 0, Value.slice none 0 0, Value.bool false] 71)) = W0 at *
  generalize w.heap.size = H at *
  go_step3
  go_wp2_with fail
  go_loopw [6, 7] (fun i j wr => i = .int .i64 0 ∧ j = .int .i64 0 ∧ W0 = wr) (fun _ _ _ => 0)
  case atStart => exact ⟨rfl, rfl, rfl⟩
  case round =>
    obtain ⟨rfl, rfl, rfl⟩ := hrel
    go_wp2_with (first
      | (refine wp_region_tail 9 (by kernel_rfl) (by decide +kernel) ?_; simp only [List.take_succ_cons, List.take_zero, List.drop_succ_cons, List.drop_zero]; repeat still_step; try (refine wpStill_nil ?_; show wpList _ _ _ _ _ _))
      | (go_at_call 49; (with_reducible refine AM.out.mono ?_); rintro ed w5 ⟨rfl, vk5, vc5, vw5, q5, hS5, hq5⟩; have HS5 := Lib.hid hS5; have HQ5 := Lib.hid hq5; clear hS5 hq5)
      | fail)
    rw [Exit.noGoto_ret]
    go_ret
    exact ⟨H, vk5, vc5, vw5, q5, rfl, SS.left (HS0.out.drew.on HS5.out), by rw [HQ5.out]; simp⟩
end Go.Proofs

namespace Go.Proofs
open Go.RowKit Go.Roar
theorem toldB_any (p : Nat) (t : TypeId) (vk vc vw : Value) (q : List Kon) (s : List (Nat × Nat)) (w : World) (ok : OKP (psOf q)) (h : Parts w (BMP p t vk vc vw q)) (hT : Tab w) (hTs : 0 < w.heap.size) (hs : RgOK 4294967296 s) (he : allN (psOf q) = rgNums s) (hc : rgCard s ≤ 1000000) :
    Calls Tryz.prog 19 #[.pointer (some ⟨p, 0, none⟩)] w fun e w' => ∃ v, e = .returned v ∧ Own w' 2 48 v s.length (rgCells s) ∧ Mild w w' ∧ (∀ b ∈ blkOf v, w.heap.size ≤ b) := by
  have hW := whole_of (H := w.heap.size) h ok hT hTs h.lt
  have hn := allN_sorted ok
  have hl := allN_lt ok
  have hlen : (nums (psOf q)).length ≤ 1000000 := by rw [nums_allN, he, rgNums_length]; exact hc
  have := told_any p (psOf q) w hW (by rw [nums_allN]; exact hn) (by rw [nums_allN]; exact hl) hlen
  rw [nums_allN, he, tell_back hs] at this
  exact this
theorem or_prep {w1 w3 w4 : World} {p1 p2 : Nat} {t1 t2 : TypeId} {vk1 vc1 vw1 vk2 vc2 vw2 : Value} {q1 : List Kon} (h1 : SS w1 [] w3 (BMP p1 t1 vk1 vc1 vw1 q1)) (hn : ∀ x, x ∈ allN (psOf q1) ↔ inR [(1, 3)] x) (h2 : SS w3 [] w4 (BMP p2 t2 vk2 vc2 vw2 [])) :
    Parts w4 (BMP p1 t1 vk1 vc1 vw1 q1) ∧ 0 < q1.length ∧ ∃ G2 c2, w4.cell? ⟨p2, 0, none⟩ = some (.slice G2 0 c2) := by
  refine ⟨h1.sep.kept h2.mild (fun _ _ => id), ?_, ?_⟩
  · rcases q1 with _ | ⟨x, q1⟩
    · have := (hn 1).2 ⟨(1, 3), by simp, by decide, by decide⟩
      simp [allN, psOf] at this
    · simp
  · have hra := RA.of (Parts.left h2.sep)
    obtain ⟨G2, c2, hv2, _⟩ := hra.keys.sliceOf
    exact ⟨G2, c2, by rw [hra.k, hv2]; rfl⟩

theorem or_told {w w1 w3 w4 w5 : World} {p1 p2 p : Nat} {t1 t2 t : TypeId} {vk1 vc1 vw1 vk2 vc2 vw2 vk vc vw : Value} {q1 q' : List Kon} (hT : Tab w) (hTs : 0 < w.heap.size) (m : Mild w w1) (h1 : SS w1 [] w3 (BMP p1 t1 vk1 vc1 vw1 q1)) (ok : OKP (psOf q1)) (hn : ∀ x, x ∈ allN (psOf q1) ↔ inR [(1, 3)] x) (h2 : SS w3 [] w4 (BMP p2 t2 vk2 vc2 vw2 []))
    (h3 : SS w4 (foot (BMP p1 t1 vk1 vc1 vw1 q1)) w5 (BMP p t vk vc vw q')) (hk : q'.map kon3 = q1.map kon3) :
    Calls Tryz.prog 19 #[.pointer (some ⟨p, 0, none⟩)] w5 fun e w' => ∃ A c, e = .returned (.slice A 1 c) ∧ Mild w w' := by
  have hps := kon3_ps hk
  have z1 := m.size
  have z3 := h1.mild.size
  have z4 := h2.mild.size
  have hTF := h1.clear (Nat.lt_of_lt_of_le hTs z1)
  have m4 : Mild w w4 := m.trans (h1.mild.trans h2.mild)
  have hT5 : Tab w5 := fun i hi => h3.kept.cell2 hTF (m4.cell2 id (hT i hi))
  have m5 : Mild w w5 := Kept.then (S' := (· ∈ foot (BMP p1 t1 vk1 vc1 vw1 q1))) m4 h3.kept (fun k hk hx => absurd hx (h1.clear (Nat.lt_of_lt_of_le hk z1)))
  have hr : RgOK 4294967296 [(1, 3)] := ⟨by intro r hr; simp at hr; subst hr; exact ⟨by decide, by decide⟩, by simp⟩
  have he : allN (psOf q1) = rgNums [(1, 3)] := allN_only ok hr hn (fun x => by rw [rgNums_mem (fun r hr' => (hr.1 r hr').1)]; rfl)
  have := toldB_any p t vk vc vw q' [(1, 3)] w5 (by rw [hps]; exact ok) h3.sep hT5 (Nat.lt_of_lt_of_le hTs m5.size) hr (by rw [hps]; exact he) (by simp [rgCard])
  refine this.mono ?_
  rintro ed w6 ⟨v, rfl, ho, hm, _⟩
  obtain ⟨A, c, hv⟩ := ho.form
  rw [hv]
  exact ⟨A, c, rfl, m5.trans hm⟩

set_option maxRecDepth 100000 in
set_option maxHeartbeats 4000000 in
theorem orSmall_any (g : Nat) (w : World) (h : Blk w g 48 [.int .u32 1, .int .u32 3]) (hT : Tab w) (hTs : 0 < w.heap.size) :
    Calls Tryz.prog 23 #[.slice (some ⟨g, 0, none⟩) 1 1, .slice none 0 0, .int .i64 0] w fun e w' => ∃ A c, e = .returned (.slice A 1 c) ∧ Mild w w' := by
  have hr : RgOK 4294967296 [(1, 3)] := ⟨by intro r hr; simp at hr; subst hr; exact ⟨by decide, by decide⟩, by simp⟩
  have hu : SG w (.slice (some ⟨g, 0, none⟩) 1 1) [(1, 3)] := ⟨some ⟨g, 0, none⟩, 1, rfl, fun i r hi => by
    rcases i with _ | i
    · simp at hi; subst hi
      exact ⟨⟨g, 0, none⟩, rfl, h.cell 0, h.cell 1⟩
    · simp at hi⟩
  have hn : SG w (.slice none 0 0) [] := ⟨none, 0, rfl, fun i r hi => by simp at hi⟩
  have m1 : Mild w (w.alloc (.cells #[.slice (some ⟨g, 0, none⟩) 1 1, .slice none 0 0] 22)) := (Kept.refl _ _).alloc _
  have hB := Blk.new w 22 [.slice (some ⟨g, 0, none⟩) 1 1, .slice none 0 0]
  have FT := Lib.hid (fits_any w.heap.size 2 2 [(.slice (some ⟨g, 0, none⟩) 1 1, [(1, 3)]), (.slice none 0 0, [])] (w.alloc (.cells #[.slice (some ⟨g, 0, none⟩) 1 1, .slice none 0 0] 22)) rfl (by decide) (fun i x hi => by
    rcases i with _ | _ | i
    · simp at hi; subst hi
      exact ⟨hB.cell 0, Go.Roar.SG.mild hu m1, by intro r hr; simp at hr; subst hr; exact ⟨by decide, by decide⟩, by simp [keep, rgCard], by simp⟩
    · simp at hi; subst hi
      exact ⟨hB.cell 1, Go.Roar.SG.mild hn m1, by intro r hr; simp at hr, by simp [keep, rgCard], by simp⟩
    · simp at hi))
  have M1 := Lib.hid m1
  have Hu := Lib.hid hu
  have Hnl := Lib.hid hn
  have HT := Lib.hid hT
  have Hr := Lib.hid hr
  clear m1 hB hu hn hT hr h
  have k0 : bits .and .i64 0 1 = 0 := by decide
  have k1 : bits .and .i64 0 2 = 0 := by decide
  have IM := Lib.hid (fun (W : World) (k : Mild w W) => implMade_any (.slice (some ⟨g, 0, none⟩) 1 1) [(1, 3)] false W (Go.Roar.SG.mild Hu.out k) (by intro r hr; simp at hr; subst hr; exact ⟨by decide, by decide⟩) (by simp) (fun i hi => k.cell2 id (HT.out i hi)) (Nat.lt_of_lt_of_le hTs k.size))
  have IN := Lib.hid (fun (W : World) (k : Mild w W) => implMade_any (.slice none 0 0) [] false W (Go.Roar.SG.mild Hnl.out k) (by intro r hr; simp at hr) (by simp) (fun i hi => k.cell2 id (HT.out i hi)) (Nat.lt_of_lt_of_le hTs k.size))
  go_enter Tryz.func23, Tryz.ntmps23
  go_wp2_with (first
    | (go_at_call 16; refine FT.out.mono ?_; rintro ed w1 ⟨rfl, hm⟩; have M2 := Lib.hid (M1.out.trans hm); clear hm)
    | (go_at_call 17; (with_reducible refine (IM.out _ M2.out).mono ?_); rintro ed w3 ⟨p1, vk1, vc1, vw1, q1, rfl, s1, o1, -, n1, -⟩; have HS1 := Lib.hid s1; have HO1 := Lib.hid o1; have HN1 := Lib.hid n1; have M3 := Lib.hid (M2.out.trans s1.mild); clear s1 o1 n1)
    | (go_at_call 17; (with_reducible refine (IN.out _ M3.out).mono ?_); rintro ed w4 ⟨p2, vk2, vc2, vw2, q2, rfl, s2, o2, -, n2, -⟩; obtain rfl := allN_empty o2 (fun x hx => inR_nil x ((n2 x).1 hx)); have HS2 := Lib.hid s2; have M4 := Lib.hid (M3.out.trans s2.mild); clear s2 o2 n2)
    | (go_at_call 36; obtain ⟨hP1, hq1, G2, c2, hv2⟩ := or_prep HS1.out HN1.out HS2.out; (with_reducible refine (orEmpty_any p1 p2 _ vk1 vc1 vw1 q1 w4 (BMP.len HO1.out) hq1 hP1 G2 c2 hv2).mono ?_); rintro ed w5 ⟨p, vk, vc, vw, q', rfl, s3, k3⟩; have HS3 := Lib.hid s3; have HK3 := Lib.hid k3; clear s3 k3 hP1 hq1 hv2; have TD := Lib.hid (or_told HT.out hTs M2.out HS1.out HO1.out HN1.out HS2.out HS3.out HK3.out))
    | (go_at_call 19; (with_reducible refine TD.out.mono ?_); rintro ed w6 ⟨A, c, rfl, hm⟩)
    | fail)
  go_ret
  exact ⟨A, c, rfl, hm⟩

set_option maxRecDepth 100000 in
set_option maxHeartbeats 1000000 in
theorem some_any (w : World) (hT : Tab w) (hTs : 0 < w.heap.size) :
    Calls Tryz.prog 14 #[] w fun e w' => e = .returned (.bool true) ∧ Mild w w' := by
  have m1 : Mild w (w.alloc (.cells #[.int .u32 1, .int .u32 3] 48)) := (Kept.refl _ _).alloc _
  have OS := Lib.hid (orSmall_any w.heap.size _ (Blk.new w 48 [.int .u32 1, .int .u32 3]) (fun i hi => m1.cell2 id (hT i hi)) (Nat.lt_of_lt_of_le hTs m1.size))
  have M1 := Lib.hid m1
  clear m1 hT
  go_enter Tryz.func14, Tryz.ntmps14
  go_wp2_with (first
    | (go_at_call 7; refine (three_any _).mono ?_; rintro ed w1 ⟨rfl, rfl⟩)
    | (go_at_call 23; (with_reducible refine OS.out.mono ?_); rintro ed w2 ⟨A, c, rfl, hm⟩; have M2 := Lib.hid (M1.out.trans hm); clear hm)
    | fail)
  go_ret
  exact ⟨rfl, M2.out⟩
end Go.Proofs
