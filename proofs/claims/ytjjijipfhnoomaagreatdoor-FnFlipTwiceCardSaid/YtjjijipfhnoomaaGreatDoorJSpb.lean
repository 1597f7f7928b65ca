/-
  Spans within wider bounds; impl.ranged.
  laws.span; impl.FlipRange.
-/
import Derived.Test.YtjjijipfhnoomaaGreatDoorJMd
import Derived.Test.YtjjijipfhnoomaaGreatDoorJTd
import Derived.Test.YtjjijipfhnoomaaGreatDoorJMbi
import Derived.Test.YtjjijipfhnoomaaGreatDoorJRma
namespace Go.Roar
open Go.RowKit Go.Proofs
/-- Spans, and the set that they are, within wider bounds. -/
structure SpansB (w : World) (u : Value) (rs s : List (Nat × Nat)) : Prop where
  sg : SG w u rs
  bnd : ∀ r ∈ rs, r.1 < 4294967296 ∧ r.2 < 4294967296
  len : rs.length ≤ 600
  card : rgCard (keep rs) ≤ 400000
  ok : RgOK 4294967296 s
  nums : ∀ x, x ∈ rgNums s ↔ inR rs x
  tab : Tab w
  tabs : 0 < w.heap.size
theorem Spans.toB {w : World} {u : Value} {rs s : List (Nat × Nat)} (h : Spans w u rs s) : SpansB w u rs s :=
  ⟨h.sg, h.bnd, Nat.le_trans h.len (by decide), Nat.le_trans h.card (by decide), h.ok, h.nums, h.tab, h.tabs⟩
theorem SpansB.mild {w w' : World} {u : Value} {rs s : List (Nat × Nat)} (h : SpansB w u rs s) (k : Mild w w') : SpansB w' u rs s :=
  ⟨Go.Roar.SG.mild h.sg k, h.bnd, h.len, h.card, h.ok, h.nums, fun i hi => k.cell2 id (h.tab i hi), Nat.lt_of_lt_of_le h.tabs k.size⟩
theorem SG.own {w : World} {v : Value} {rs : List (Nat × Nat)} (h : Own w 2 43 v rs.length (rgCells rs)) : SG w v rs := by
  obtain ⟨A, c, rfl, h9⟩ := SV.own h
  refine ⟨A, c, rfl, fun i r hr => ?_⟩
  obtain ⟨g, rfl, h1, h2⟩ := h9 i r hr
  have e : ∀ j, (⟨g, 0, none⟩ : Addr).add j = ⟨g, j, none⟩ := fun j => by unfold Addr.add; split <;> simp_all
  exact ⟨_, rfl, by rw [e]; exact h1, by rw [e]; exact h2⟩
theorem keep_all {rs : List (Nat × Nat)} {n : Nat} (h : RgOK n rs) : keep rs = rs := by
  unfold keep
  rw [List.filter_eq_self]
  intro r hr
  have := (h.1 r hr).1
  simpa using this
/-- Spans that were told are a set. -/
theorem SpansB.told {w : World} {v : Value} {s : List (Nat × Nat)} (h : Own w 2 43 v s.length (rgCells s)) (ok : RgOK 4294967296 s) (hl : s.length ≤ 600) (hc : rgCard s ≤ 400000) (hT : Tab w) (hTs : 0 < w.heap.size) : SpansB w v s s :=
  ⟨SG.own h, fun r hr => by have := ok.1 r hr; omega, hl, by rw [keep_all ok]; exact hc, ok, fun x => by rw [rgNums_mem (fun r hr => (ok.1 r hr).1)]; exact Iff.rfl, hT, hTs⟩
theorem SpansB.empty (w : World) (hT : Tab w) (hTs : 0 < w.heap.size) : SpansB w (.slice none 0 0) [] [] :=
  ⟨⟨none, 0, rfl, fun i r hr => by simp at hr⟩, by simp, by simp, by simp [keep, rgCard], RgOK.nil _, fun x => by simp [rgNums, inR], hT, hTs⟩
end Go.Roar
namespace Go.Proofs
open Go.RowKit Go.Roar
theorem made_ofB {w : World} {u : Value} {rs s : List (Nat × Nat)} (h : SpansB w u rs s) (opt : Bool) :
    Calls Tryz.prog 19 #[u, .bool opt] w fun e w' => ∃ p vk vc vw q, e = .returned (.pointer (some ⟨p, 0, none⟩)) ∧ SS w [] w' (BMP p 65 vk vc vw q) ∧ OKP (psOf q) ∧ FewRuns (psOf q) 600 ∧ allN (psOf q) = rgNums s := by
  refine (implMade_any u rs opt w h.sg h.bnd (Nat.le_trans h.len (by decide)) h.tab h.tabs).mono ?_
  rintro e w' ⟨p, vk, vc, vw, q, rfl, s1, s2, s3, s4, s5⟩
  exact ⟨p, vk, vc, vw, q, rfl, s1, s2, fun x hx => Nat.le_trans (s3 x hx) h.len, allN_only s2 h.ok s4 h.nums⟩
theorem fits_ofB {w w1 : World} {u : Value} {rs s : List (Nat × Nat)} (h : SpansB w u rs s) (hw : w1 = w.alloc (.cells #[u] 22)) :
    Calls Tryz.prog 17 #[.slice (some ⟨w.heap.size, 0, none⟩) 1 1] w1 fun e w' => e = .returned (.bool true) ∧ Mild w w' := by
  subst hw
  have m1 : Mild w (w.alloc (.cells #[u] 22)) := (Kept.refl _ _).alloc _
  refine (fits_any w.heap.size 1 1 [(u, rs)] _ rfl (by decide) (fun i x hi => ?_)).mono ?_
  · rcases i with _ | i
    · simp at hi; subst hi
      exact ⟨(Blk.new w 22 [u]).cell 0, Go.Roar.SG.mild h.sg m1, h.bnd, h.card, Nat.le_trans h.len (by decide)⟩
    · simp at hi
  · rintro e w' ⟨rfl, hm⟩
    exact ⟨rfl, m1.trans hm⟩
theorem ranged_any (a b : Nat) (w : World) (hab : a ≤ b) (hb : b ≤ 4294967296) (hd : b - a ≤ 300000) :
    Calls Tryz.prog 18 #[.int .u64 (a : Int), .int .u64 (b : Int)] w fun e w' => e = .returned (.bool true) ∧ w = w' := by
  have i1 : (b : Int) ≤ 4294967296 := by omega
  by_cases h : a = b
  · subst h
    go_enter Tryz.func18, Tryz.ntmps18
    go_wp2
    go_ret
    exact ⟨rfl, rfl⟩
  · have i2 : ¬ (b : Int) ≤ (a : Int) := by omega
    have i3 : (b : Int) - (a : Int) ≤ 300000 := by omega
    have q1 : IntKind.u64.wrap ((b : Int) - (a : Int)) = (b : Int) - (a : Int) := IntWalk.u64_in _ (by omega)
    go_enter Tryz.func18, Tryz.ntmps18
    go_wp2
    go_ret
    exact ⟨rfl, rfl⟩
end Go.Proofs

namespace Go.Roar
open Go.RowKit Go.Proofs
theorem allN_eqF {ps : List (Nat × List Nat)} {s : List (Nat × Nat)} (h : OKP ps) (hs : RgOK 4294967296 s) (hm : ∀ x, x ∈ allN ps ↔ x ∈ rgNums s) : allN ps = rgNums s := sorted_ext (allN_sorted h) (rgNums_rising hs) hm
end Go.Roar
namespace Go.Proofs
open Go.RowKit Go.Roar
theorem bit1f : ∀ m : Nat, m < 2 → bits .and .i64 (m : Int) 1 = (m : Int) := by
  intro m hm
  rcases (show m = 0 ∨ m = 1 by omega) with rfl | rfl <;> decide
theorem flip0_any (p S E : Nat) (w : World) (hSE : E ≤ S) (hS : S ≤ 4294967296) :
    Calls Tryz.prog 25 #[.pointer (some ⟨p, 0, none⟩), .int .u64 (S : Int), .int .u64 (E : Int)] w fun ed w' => ed = .returned (.tuple #[]) ∧ w = w' := by
  have i1 : (E : Int) ≤ (S : Int) := by omega
  have i2 : ¬ (4294967296 : Int) < (E : Int) := by omega
  have i3 : ¬ (4294967296 : Int) < (S : Int) := by omega
  go_enter Tryz.func25, Tryz.ntmps25
  go_wp2
  refine bodyPost_ret (results_none rfl _ _ _) rfl ?_
  exact ⟨rfl, rfl⟩
/-- Flip, an empty range too. -/
theorem flipA_any (p : Nat) (t : TypeId) (vk vc vw : Value) (q : List Kon) (S E : Nat) (w : World) (hSE : S ≤ E) (hE : E ≤ 4294967296) (ok : OKP (psOf q)) (few : FewRuns (psOf q) 600) (h : Parts w (BMP p t vk vc vw q)) :
    Calls Tryz.prog 25 #[.pointer (some ⟨p, 0, none⟩), .int .u64 (S : Int), .int .u64 (E : Int)] w fun ed w' => ed = .returned (.tuple #[]) ∧ ∃ vk' vc' vw' q', SS w (foot (BMP p t vk vc vw q)) w' (BMP p t vk' vc' vw' q') ∧ OKP (psOf q') ∧
      ∀ x, x ∈ allN (psOf q') ↔ (x ∈ allN (psOf q) ∧ ¬ (S ≤ x ∧ x < E)) ∨ (x ∉ allN (psOf q) ∧ S ≤ x ∧ x < E) := by
  rcases Nat.eq_or_lt_of_le hSE with he | he
  · subst he
    refine (flip0_any p S S w (Nat.le_refl _) hE).mono ?_
    rintro ed w' ⟨rfl, rfl⟩
    exact ⟨rfl, vk, vc, vw, q, SS.init h, ok, fun x => ⟨fun g => .inl ⟨g, by omega⟩, fun g => g.elim (·.1) (fun g => by omega)⟩⟩
  · refine (flip_any p t vk vc vw q 600 S E w he hE (by decide) ok few h).mono ?_
    rintro ed w' ⟨rfl, vk', vc', vw', q', s1, s2, -, s4⟩
    exact ⟨rfl, vk', vc', vw', q', s1, s2, s4⟩

set_option maxRecDepth 100000 in
set_option maxHeartbeats 4000000 in
theorem implFlip_any (u : Value) (rs s s' : List (Nat × Nat)) (a b m : Nat) (w : World) (h : SpansB w u rs s) (hab : a ≤ b) (hb : b ≤ 4294967296) (hd : b - a ≤ 300000) (hm : m < 2) (hs' : RgOK 4294967296 s')
    (hn' : ∀ y, y ∈ rgNums s' ↔ (y ∈ rgNums s ∧ ¬ (a ≤ y ∧ y < b)) ∨ (y ∉ rgNums s ∧ a ≤ y ∧ y < b)) (hc' : rgCard s' ≤ 1000000) :
    Calls Tryz.prog 13 #[u, .int .u64 (a : Int), .int .u64 (b : Int), .int .i64 (m : Int)] w fun e w' => ∃ v, e = .returned v ∧ Own w' 2 43 v s'.length (rgCells s') ∧ Mild w w' := by
  have FT := Lib.hid (fits_ofB h rfl)
  have RG := Lib.hid (fun (W : World) => ranged_any a b W hab hb hd)
  have H := Lib.hid h
  obtain ⟨A, c, hu, _⟩ := h.sg
  have Hs' := Lib.hid hs'
  have Hn' := Lib.hid hn'
  have Hc' := Lib.hid hc'
  clear h hs' hn' hc' hd
  subst hu
  have k0 := bit1f m hm
  go_enter Tryz.func13, Tryz.ntmps13
  go_wp2_with (first
    | (go_at_call 17; (with_reducible refine FT.out.mono ?_); rintro ed w1 ⟨rfl, hm⟩; have M1 := Lib.hid hm; clear hm)
    | (go_at_call 18; (with_reducible refine (RG.out _).mono ?_); rintro ed w9 ⟨rfl, rfl⟩)
    | (go_at_call 19; (with_reducible refine (made_ofB (H.out.mild M1.out) _).mono ?_); rintro ed w2 ⟨p, vk, vc, vw, q, rfl, s1, s2, s3, s4⟩; have S1 := Lib.hid s1; have S2 := Lib.hid s2; have S3 := Lib.hid s3; have S4 := Lib.hid s4; clear s1 s2 s3 s4)
    | (go_at_call 25; have C1 := flipA_any p _ vk vc vw q a b w2 hab hb S2.out S3.out S1.out.sep; (with_reducible refine C1.mono ?_); clear C1; rintro ed w3 ⟨rfl, vk2, vc2, vw2, q2, s1, s2, s3⟩; have T1 := Lib.hid (S1.out.on s1); have T2 := Lib.hid s2; have T3 := Lib.hid s3; clear s1 s2 s3)
    | (go_at_call 21; have C2 := (toldB_any p _ vk2 vc2 vw2 q2 s' w3 T2.out T1.out.sep (H.out.mild (M1.out.trans T1.out.mild)).tab (H.out.mild (M1.out.trans T1.out.mild)).tabs Hs'.out (allN_eqF T2.out Hs'.out (fun y => by rw [T3.out, S4.out, Hn'.out])) Hc'.out); (with_reducible refine C2.mono ?_); clear C2; rintro ed w4 ⟨v, rfl, s1, s2, s3⟩; have U1 := Lib.hid s1; have U2 := Lib.hid s2; clear s1 s2 s3)
    | fail)
  go_ret
  exact ⟨v, rfl, U1.out, M1.out.trans (T1.out.mild.trans U2.out)⟩
end Go.Proofs
