/-
  Plain laws for FnRemoveOne: a set without one number.
  impl.Remove. (DRAFT: not built.)
-/
import Derived.Test.YteagcndpegdojaaGreatDoorJAo
import Derived.Test.YteagcndpegdojaaGreatDoorJNop
import Derived.Test.YteagcndpegdojaaGreatDoorJMd
import Derived.Test.YteagcndpegdojaaGreatDoorJOre
import Derived.Test.YteagcndpegdojaaGreatDoorJAoL
namespace Go.Roar
open Go.RowKit Go.Proofs
theorem minus_one {s : List (Nat × Nat)} {x : Nat} (hs : RgOK 4294967296 s) : ∃ s', RgOK 4294967296 s' ∧ (∀ y, y ∈ rgNums s' ↔ y ∈ rgNums s ∧ y ≠ x) ∧ rgCard s' ≤ rgCard s := by
  obtain ⟨h1, h2⟩ := runsOf_ok (n := 4294967296) (wo (rgNums s) x) (wo_rising (rgNums_rising hs) x) (wo_lt (rgNums_lt hs) x)
  refine ⟨_, h1, fun y => by rw [h2, wo_mem], ?_⟩
  rw [← rgNums_length, ← rgNums_length, h2]
  exact List.length_filter_le _ _
/-- What spec.Not tells of one number. -/
theorem not_one {n s : List (Nat × Nat)} {x : Nat} (hm : ∀ z, inR n z ↔ z < 4294967296 ∧ ¬ inR [(x, x)] z) (hs : RgOK 4294967296 s) (z : Nat) : (inR s z ∧ inR n z) ↔ z ∈ rgNums s ∧ z ≠ x := by
  rw [rgNums_mem (fun r hr => (hs.1 r hr).1), hm]
  constructor
  · rintro ⟨h1, _, h2⟩
    exact ⟨h1, fun e => h2 ((inR_one _ _).2 ⟨by simp only; omega, by simp only; omega⟩)⟩
  · rintro ⟨⟨r, hr, h1, h2⟩, h3⟩
    have := hs.1 r hr
    exact ⟨⟨r, hr, h1, h2⟩, by omega, fun h => by
      have h4 := (inR_one _ _).1 h
      simp only at h4
      omega⟩
end Go.Roar

namespace Go.Roar
open Go.RowKit Go.Proofs
/-- The numbers of a set are those of ranges. -/
theorem allN_eq {ps : List (Nat × List Nat)} {s : List (Nat × Nat)} (h : OKP ps) (hs : RgOK 4294967296 s) (hm : ∀ x, x ∈ allN ps ↔ x ∈ rgNums s) : allN ps = rgNums s := sorted_ext (allN_sorted h) (rgNums_rising hs) hm
end Go.Roar
namespace Go.Proofs
open Go.RowKit Go.Roar
theorem bit1a : ∀ m : Nat, m < 2 → bits .and .i64 (m : Int) 1 = (m : Int) := by
  intro m hm
  rcases (show m = 0 ∨ m = 1 by omega) with rfl | rfl <;> decide

set_option maxRecDepth 100000 in
set_option maxHeartbeats 4000000 in
theorem implRemove_any (u : Value) (rs s s' : List (Nat × Nat)) (x m : Nat) (w : World) (h : Spans w u rs s) (hx : x < 4294967296) (hm : m < 2) (hs' : RgOK 4294967296 s') (hn' : ∀ y, y ∈ rgNums s' ↔ y ∈ rgNums s ∧ y ≠ x) (hc' : rgCard s' ≤ rgCard s) :
    Calls Tryz.prog 6 #[u, .int .u32 (x : Int), .int .i64 (m : Int)] w fun e w' => ∃ v, e = .returned (.tuple #[v, .bool (decide (x ∈ rgNums s))]) ∧ Own w' 2 48 v s'.length (rgCells s') ∧ Mild w w' := by
  have FT := Lib.hid (fits_of h rfl)
  have hcs := Nat.le_trans hc' h.cs
  have Hcs := Lib.hid (show rgCard s' ≤ 1000000 by omega)
  have H := Lib.hid h
  obtain ⟨A, c, hu, _⟩ := h.sg
  have Hu := Lib.hid hu
  have Hs' := Lib.hid hs'
  have Hn' := Lib.hid hn'
  clear h hcs hs' hn'
  subst hu
  have k0 := bit1a m hm
  go_enter Tryz.func6, Tryz.ntmps6
  go_wp2_with (first
    | (go_at_call 16; (with_reducible refine FT.out.mono ?_); rintro ed w1 ⟨rfl, hm⟩; have M1 := Lib.hid hm; clear hm)
    | (go_at_call 17; (with_reducible refine (made_of (H.out.mild M1.out) _).mono ?_); rintro ed w2 ⟨p, vk, vc, vw, q, rfl, s1, s2, s3, s4, s5⟩; have S1 := Lib.hid s1; have S2 := Lib.hid s2; have S3 := Lib.hid s3; have S4 := Lib.hid s4; clear s1 s2 s3 s4 s5)
    | (go_at_call 18; have C1 := checkedRemove_any p _ vk vc vw q x w2 hx S2.out (fun z hz => Nat.le_trans (S3.out z hz) (by decide)) S1.out.sep; (with_reducible refine C1.mono ?_); clear C1; rintro ed w3 ⟨rfl, vk2, vc2, vw2, q2, s1, s2, s3⟩; have T1 := Lib.hid (S1.out.on s1); have T2 := Lib.hid s2; have T3 := Lib.hid s3; clear s1 s2 s3)
    | (go_at_call 19; have C2 := (toldB_any p _ vk2 vc2 vw2 q2 s' w3 T2.out T1.out.sep (H.out.mild (M1.out.trans T1.out.mild)).tab (H.out.mild (M1.out.trans T1.out.mild)).tabs Hs'.out (allN_eq T2.out Hs'.out (fun y => by rw [T3.out, S4.out, Hn'.out])) Hcs.out); (with_reducible refine C2.mono ?_); clear C2; rintro ed w4 ⟨v, rfl, s1, s2, s3⟩; have U1 := Lib.hid s1; have U2 := Lib.hid s2; clear s1 s2 s3)
    | fail)
  have hb2 : decide (x ∈ allN (psOf q)) = decide (x ∈ rgNums s) := by rw [S4.out]
  have Hb2 := Lib.hid hb2
  clear hb2
  go_ret2
  refine ⟨v, ?_, U1.out, M1.out.trans (T1.out.mild.trans U2.out)⟩
  rw [← Hb2.out]
  rfl
end Go.Proofs
