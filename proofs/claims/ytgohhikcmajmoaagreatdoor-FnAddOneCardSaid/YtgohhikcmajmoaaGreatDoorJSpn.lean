/-
  The spans that a law is handed; impl.made, impl.fits on them.
  impl.Add.
-/
import Derived.Test.YtgohhikcmajmoaaGreatDoorJMd
import Derived.Test.YtgohhikcmajmoaaGreatDoorJOnk
namespace Go.Roar
open Go.RowKit Go.Proofs
/-- The kinds that take the fewest bytes. -/
def kindsOf (ps : List (Nat × List Nat)) : List Nat := ps.map fun p => kindOf p.2
theorem kinds_opt {q : List Kon} (h : ∀ x ∈ q, x.k = kindOf x.l) : q.map (·.k) = kindsOf (psOf q) := by
  unfold kindsOf psOf
  rw [List.map_map]
  exact List.map_congr_left h
/-- The spans that a law is handed, and the set that they are. -/
structure Spans (w : World) (u : Value) (rs s : List (Nat × Nat)) : Prop where
  sg : SG w u rs
  bnd : ∀ r ∈ rs, r.1 < 4294967296 ∧ r.2 < 4294967296
  len : rs.length ≤ 400
  card : rgCard (keep rs) ≤ 200000
  ok : RgOK 4294967296 s
  nums : ∀ x, x ∈ rgNums s ↔ inR rs x
  cs : rgCard s ≤ 200000
  tab : Tab w
  tabs : 0 < w.heap.size
theorem Spans.mild {w w' : World} {u : Value} {rs s : List (Nat × Nat)} (h : Spans w u rs s) (k : Mild w w') : Spans w' u rs s :=
  ⟨Go.Roar.SG.mild h.sg k, h.bnd, h.len, h.card, h.ok, h.nums, h.cs, fun i hi => k.cell2 id (h.tab i hi), Nat.lt_of_lt_of_le h.tabs k.size⟩
end Go.Roar
namespace Go.Proofs
open Go.RowKit Go.Roar
theorem made_of {w : World} {u : Value} {rs s : List (Nat × Nat)} (h : Spans w u rs s) (opt : Bool) :
    Calls Tryz.prog 12 #[u, .bool opt] w fun e w' => ∃ p vk vc vw q, e = .returned (.pointer (some ⟨p, 0, none⟩)) ∧ SS w [] w' (BMP p 59 vk vc vw q) ∧ OKP (psOf q) ∧ FewRuns (psOf q) 400 ∧ allN (psOf q) = rgNums s ∧ (opt = true → ∀ x ∈ q, x.k = kindOf x.l) := by
  refine (implMade_any u rs opt w h.sg h.bnd (Nat.le_trans h.len (by decide)) h.tab h.tabs).mono ?_
  rintro e w' ⟨p, vk, vc, vw, q, rfl, s1, s2, s3, s4, s5⟩
  exact ⟨p, vk, vc, vw, q, rfl, s1, s2, fun x hx => Nat.le_trans (s3 x hx) h.len, allN_only s2 h.ok s4 h.nums, s5⟩
theorem fits_of {w w1 : World} {u : Value} {rs s : List (Nat × Nat)} (h : Spans w u rs s) (hw : w1 = w.alloc (.cells #[u] 22)) :
    Calls Tryz.prog 11 #[.slice (some ⟨w.heap.size, 0, none⟩) 1 1] w1 fun e w' => e = .returned (.bool true) ∧ Mild w w' := by
  subst hw
  have m1 : Mild w (w.alloc (.cells #[u] 22)) := (Kept.refl _ _).alloc _
  refine (fits_any w.heap.size 1 1 [(u, rs)] _ rfl (by decide) (fun i x hi => ?_)).mono ?_
  · rcases i with _ | i
    · simp at hi; subst hi
      exact ⟨(Blk.new w 22 [u]).cell 0, Go.Roar.SG.mild h.sg m1, h.bnd, Nat.le_trans h.card (by decide), Nat.le_trans h.len (by decide)⟩
    · simp at hi
  · rintro e w' ⟨rfl, hm⟩
    exact ⟨rfl, m1.trans hm⟩

end Go.Proofs

namespace Go.Roar
open Go.RowKit Go.Proofs
/-- The numbers of a set are those of ranges. -/
theorem allN_eq {ps : List (Nat × List Nat)} {s : List (Nat × Nat)} (h : OKP ps) (hs : RgOK 4294967296 s) (hm : ∀ x, x ∈ allN ps ↔ x ∈ rgNums s) : allN ps = rgNums s := sorted_ext (allN_sorted h) (rgNums_rising hs) hm
theorem plus_card {s s' : List (Nat × Nat)} {x : Nat} (hs : RgOK 4294967296 s) (hs' : RgOK 4294967296 s') (h : ∀ y, y ∈ rgNums s' ↔ y ∈ rgNums s ∨ y = x) : rgCard s' ≤ rgCard s + 1 := by
  rw [← rgNums_length s, ← rgNums_length s']
  have e : rgNums s' = addS (rgNums s) x (x + 1) := sorted_ext (rgNums_rising hs') (addS_sorted (rgNums_rising hs) (Nat.le_succ x)) (fun y => by
    rw [h, addS_mem (Nat.le_succ x)]
    exact or_congr Iff.rfl ⟨fun h => by omega, fun h => by omega⟩)
  rw [e, addS_length (rgNums_rising hs)]
  have h1 := lb_le (rgNums s) x
  have h2 := lb_mono (rgNums s) (Nat.le_succ x)
  have h3 := lb_le (rgNums s) (x + 1)
  rw [Nat.succ_eq_add_one] at h2
  omega
end Go.Roar
namespace Go.Proofs
open Go.RowKit Go.Roar
theorem bit1a : ∀ m : Nat, m < 2 → bits .and .i64 (m : Int) 1 = (m : Int) := by
  intro m hm
  rcases (show m = 0 ∨ m = 1 by omega) with rfl | rfl <;> decide

set_option maxRecDepth 100000 in
set_option maxHeartbeats 4000000 in
theorem implAdd_any (u : Value) (rs s s' : List (Nat × Nat)) (x m : Nat) (w : World) (h : Spans w u rs s) (hx : x < 4294967296) (hm : m < 2) (hs' : RgOK 4294967296 s') (hn' : ∀ y, y ∈ rgNums s' ↔ y ∈ rgNums s ∨ y = x) :
    Calls Tryz.prog 5 #[u, .int .u32 (x : Int), .int .i64 (m : Int)] w fun e w' => ∃ v, e = .returned (.tuple #[v, .bool (decide (x ∉ rgNums s))]) ∧ Own w' 2 38 v s'.length (rgCells s') ∧ Mild w w' := by
  have FT := Lib.hid (fits_of h rfl)
  have hcs := Nat.le_trans (plus_card h.ok hs' hn') (Nat.succ_le_succ h.cs)
  have Hcs := Lib.hid (show rgCard s' ≤ 1000000 by omega)
  have H := Lib.hid h
  obtain ⟨A, c, hu, _⟩ := h.sg
  have Hu := Lib.hid hu
  have Hs' := Lib.hid hs'
  have Hn' := Lib.hid hn'
  clear h hcs hs' hn'
  subst hu
  have k0 := bit1a m hm
  go_enter Tryz.func5, Tryz.ntmps5
  go_wp2_with (first
    | (go_at_call 11; (with_reducible refine FT.out.mono ?_); rintro ed w1 ⟨rfl, hm⟩; have M1 := Lib.hid hm; clear hm)
    | (go_at_call 12; (with_reducible refine (made_of (H.out.mild M1.out) _).mono ?_); rintro ed w2 ⟨p, vk, vc, vw, q, rfl, s1, s2, s3, s4, s5⟩; have S1 := Lib.hid s1; have S2 := Lib.hid s2; have S3 := Lib.hid s3; have S4 := Lib.hid s4; clear s1 s2 s3 s4 s5)
    | (go_at_call 13; have C1 := checkedAdd_any p _ vk vc vw q x w2 hx S2.out (fun z hz => Nat.le_trans (S3.out z hz) (by decide)) S1.out.sep; (with_reducible refine C1.mono ?_); clear C1; rintro ed w3 ⟨rfl, vk2, vc2, vw2, q2, s1, s2, s3⟩; have T1 := Lib.hid (S1.out.on s1); have T2 := Lib.hid s2; have T3 := Lib.hid s3; clear s1 s2 s3)
    | (go_at_call 14; have C2 := (toldB_any p _ vk2 vc2 vw2 q2 s' w3 T2.out T1.out.sep (H.out.mild (M1.out.trans T1.out.mild)).tab (H.out.mild (M1.out.trans T1.out.mild)).tabs Hs'.out (allN_eq T2.out Hs'.out (fun y => by rw [T3.out, S4.out, Hn'.out])) Hcs.out); (with_reducible refine C2.mono ?_); clear C2; rintro ed w4 ⟨v, rfl, s1, s2, s3⟩; have U1 := Lib.hid s1; have U2 := Lib.hid s2; clear s1 s2 s3)
    | fail)
  have hb2 : decide (x ∉ allN (psOf q)) = decide (x ∉ rgNums s) := by rw [S4.out]
  have Hb2 := Lib.hid hb2
  clear hb2
  go_ret2
  refine ⟨v, ?_, U1.out, M1.out.trans (T1.out.mild.trans U2.out)⟩
  rw [← Hb2.out, decide_not]
  rfl
end Go.Proofs
