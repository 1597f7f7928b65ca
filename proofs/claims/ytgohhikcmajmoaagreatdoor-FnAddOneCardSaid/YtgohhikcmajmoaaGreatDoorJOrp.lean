/-
  Plain laws for spec.Or: ranges in memory as the source of an append.
  spec.Or: the numbers of one of two sets.
-/
import Derived.Test.YtgohhikcmajmoaaGreatDoorJWh
import Derived.Test.YtgohhikcmajmoaaGreatDoorJAp2
import Derived.Test.YtgohhikcmajmoaaGreatDoorKMb
namespace Go.Roar
open Go.RowKit Go.Proofs
theorem add_flat (g j : Nat) : (⟨g, 0, none⟩ : Addr).add j = ⟨g, j, none⟩ := by
  unfold Addr.add
  by_cases hj0 : j = 0
  · subst hj0; simp
  · simp [hj0]
theorem RV.news {w : World} {ad : Addr} {n c : Nat} {rs : List (Nat × Nat)} (h : RV w (.slice (some ad) n c) rs) : ∀ j u, (rcs rs)[j]? = some u → w.cell? (ad.add j) = some u := by
  obtain ⟨A, c', e, h⟩ := h
  simp only [Value.slice.injEq] at e
  obtain ⟨rfl, rfl, rfl⟩ := e
  intro j u hj
  have hjl : j < rs.length * 2 := by have := (List.getElem?_eq_some_iff.1 hj).1; rwa [rcs_length] at this
  obtain ⟨i, hi⟩ : ∃ i, j = i * 2 ∨ j = i * 2 + 1 := ⟨j / 2, by omega⟩
  have hr : rs[i]? = some (rs[i]'(by omega)) := List.getElem?_eq_getElem (by omega)
  obtain ⟨g, hg, c1, c2⟩ := h _ _ hr
  obtain ⟨e1, e2⟩ := rcs_at hr
  simp only [Option.some.injEq] at hg
  subst hg
  rcases hi with rfl | rfl
  · rw [e1] at hj
    rw [← Option.some.inj hj, ← c1, add_flat]
  · rw [e2] at hj
    rw [← Option.some.inj hj, ← c2, add_flat]
theorem RV.none_nil {w : World} {n c : Nat} {rs : List (Nat × Nat)} (h : RV w (.slice none n c) rs) : rs = [] := by
  obtain ⟨A, c', e, h⟩ := h
  simp only [Value.slice.injEq] at e
  obtain ⟨rfl, rfl, rfl⟩ := e
  cases rs with
  | nil => rfl
  | cons r l =>
    obtain ⟨g, hg, _⟩ := h 0 r rfl
    cases hg
end Go.Roar

namespace Go.Proofs
open Go.RowKit Go.Roar
theorem infoRangeO : (Tryz.prog.info? 33).map (fun i => (i.zero, i.size, i.bytes)) = some (some (.agg #[.int .i64 0, .int .i64 0]), 2, 16) := by kernel_rfl
theorem undRangesO : Tryz.prog.underlying 24 = some (.slice 33) := by kernel_rfl
theorem undSetO : Tryz.prog.underlying 25 = some (.slice 33) := by kernel_rfl
theorem rcs_one (rs : List (Nat × Nat)) : ∀ u ∈ rcs rs, u.oneCell' = true := by
  intro u hu
  unfold rcs at hu
  obtain ⟨r, _, hu⟩ := List.mem_flatMap.1 hu
  simp at hu
  rcases hu with rfl | rfl <;> rfl
theorem or_form {w : World} {size : Nat} {e : TypeId} {v : Value} {n : Nat} {xs : List Value} (h : Own w size e v n xs) : ∃ A c, v = .slice A n c := by
  rcases h.2 with ⟨h1, h0⟩ | ⟨g, k, r, h1, _⟩
  · exact ⟨none, 0, by rw [h1, h0]⟩
  · exact ⟨_, _, h1⟩
theorem or_step {w wA w1 : World} {v v1 : Value} (m : Mild w wA) (hg : wA.grownBy w1 v.ownBlock) (hat : v1.ownBlock = v.ownBlock ∨ v1.ownBlock = some wA.heap.size) (hv : ∀ b ∈ blkOf v, w.heap.size ≤ b) (hs : w.heap.size ≤ wA.heap.size) :
    Mild w w1 ∧ ∀ b ∈ blkOf v1, w.heap.size ≤ b := by
  have kB : Kept (· ∈ blkOf v) wA w1 := Kept.grown (Kept.refl _ _) hg (fun k hk _ => by unfold blkOf; rw [hk]; simp)
  refine ⟨Kept.then m kB (fun b hb hx => absurd (hv b hx) (by omega)), fun b hb => ?_⟩
  rcases hat with h | h
  · exact hv b (by unfold blkOf at hb ⊢; rw [← h]; exact hb)
  · unfold blkOf at hb; rw [h] at hb; simp at hb; omega
theorem rv_nil {w : World} {A : Option Addr} {n c : Nat} {rs : List (Nat × Nat)} (h : RV w (.slice A n c) rs) (hn : rs.length = n) : A = none → n = 0 := by
  rintro rfl
  rw [← hn, RV.none_nil h]; rfl
theorem rv_news {w : World} {A : Option Addr} {n c : Nat} {rs : List (Nat × Nat)} (h : RV w (.slice A n c) rs) : ∀ ad, A = some ad → ∀ j u, (rcs rs)[j]? = some u → w.cell? (ad.add j) = some u := by
  rintro ad rfl
  exact h.news

set_option maxRecDepth 100000 in
set_option maxHeartbeats 4000000 in
theorem or_any (ua ub : Value) (a b : List (Nat × Nat)) (w : World) (ha : RV w ua a) (hb : RV w ub b) (hr : ∀ r ∈ a ++ b, r.1 < 4294967296 ∧ r.2 < 4294967296) (hl : a.length + b.length ≤ 1000000) :
    Calls Tryz.prog 7 #[ua, ub] w fun e w' => ∃ v s, e = .returned v ∧ Own w' 2 33 v s.length (rcs s) ∧ RgOK 4294967296 s ∧ s.length ≤ a.length + b.length ∧ (∀ x, x ∈ rgNums s ↔ inR (a ++ b) x) ∧ Mild w w' := by
  obtain ⟨iR, zz1, zz2, zz3, zz4⟩ := info_parts infoRangeO
  have HM := Lib.hid (fun (u : Value) (rs : List (Nat × Nat)) (W : World) (h1 : RV W u rs) (h2 : ∀ r ∈ rs, r.1 < 4294967296 ∧ r.2 < 4294967296) (h3 : rs.length ≤ 1000000) => made_any u rs W h1 h2 h3)
  obtain ⟨na, hna⟩ : ∃ na, na = a.length := ⟨_, rfl⟩
  obtain ⟨nb, hnb⟩ : ∃ nb, nb = b.length := ⟨_, rfl⟩
  obtain ⟨A, c, rfl, _⟩ : ∃ A c, ua = .slice A na c ∧ True := by obtain ⟨A, c, h, _⟩ := ha; exact ⟨A, c, by rw [h, hna], trivial⟩
  obtain ⟨B, d, rfl, _⟩ : ∃ A c, ub = .slice A nb c ∧ True := by obtain ⟨A, c, h, _⟩ := hb; exact ⟨A, c, by rw [h, hnb], trivial⟩
  have kA : Mild w (w.alloc (.cells #[] 33)) := (Kept.refl _ _).alloc _
  have hO : Own (w.alloc (.cells #[] 33)) 2 33 (.slice (some ⟨w.heap.size, 0, none⟩) 0 0) 0 [] := ⟨rfl, .inr ⟨w.heap.size, 0, [], rfl, rfl, Nat.zero_le _, Blk.new w _ []⟩⟩
  have HO := Lib.hid hO
  have KA := Lib.hid kA
  have HV0 := Lib.hid (show ∀ b ∈ blkOf (.slice (some ⟨w.heap.size, 0, none⟩) 0 0), w.heap.size ≤ b from by intro b hb; simp at hb; omega)
  have HA := Lib.hid (ha.mild kA)
  have HB0 := Lib.hid hb
  have HR := Lib.hid hr
  have Zna := Lib.hid hna
  have Znb := Lib.hid hnb
  have La := Lib.hid (show (rcs a).length = na * 2 by rw [rcs_length, hna])
  have Lb := Lib.hid (show (rcs b).length = nb * 2 by rw [rcs_length, hnb])
  have Lab := Lib.hid (show (a ++ b).length = na + nb by rw [List.length_append, hna, hnb])
  rw [← hna, ← hnb] at hl
  rw [← hna, ← hnb]
  clear ha hb hO kA hna hnb hr
  go_enter Tryz.func7, Tryz.ntmps7
  go_wp2_with (first
    | (at_builtin; refine append_own_src rfl _ _ 24 25 rfl 0 33 iR (.agg #[.int .i64 0, .int .i64 0]) 2 16 undRangesO undSetO zz1 zz2 zz3 zz4 rfl (by decide) _ 0 [] rfl HO.out.toRow A na c (rcs a) rfl La.out (rv_nil HA.out Zna.out.symm) (rv_news HA.out) (rcs_one a) (by unfold maxLen; omega) (by omega) (Nat.zero_le _) ?_; intro v1 w1 hown1 hgrow1 hat1; rw [Nat.zero_add, List.nil_append] at hown1; obtain ⟨VA, vc, rfl⟩ := or_form (Own.ofRow hown1); have O1 := Lib.hid (Own.ofRow hown1); obtain ⟨m1, l1⟩ := or_step (v := .slice (some ⟨w.heap.size, 0, none⟩) 0 0) KA.out hgrow1 hat1 HV0.out KA.out.size; have M1 := Lib.hid m1; have L1 := Lib.hid l1; clear hown1 hgrow1 hat1 m1 l1)
    | (at_builtin; refine append_own_src rfl _ _ 24 25 rfl 0 33 iR (.agg #[.int .i64 0, .int .i64 0]) 2 16 undRangesO undSetO zz1 zz2 zz3 zz4 rfl (by decide) _ na (rcs a) rfl O1.out.toRow B nb d (rcs b) rfl Lb.out (rv_nil HB0.out Znb.out.symm) (rv_news (HB0.out.mild M1.out)) (rcs_one b) (by unfold maxLen; omega) (by omega) (Nat.zero_le _) ?_; intro v2 w2 hown2 hgrow2 hat2; rw [← rcs_append] at hown2; obtain ⟨VB, vd, rfl⟩ := or_form (Own.ofRow hown2); have R2 := Lib.hid (RV.own (rs := a ++ b) (by rw [Lab.out]; exact Own.ofRow hown2)); obtain ⟨m2, l2⟩ := or_step M1.out hgrow2 hat2 L1.out M1.out.size; have M2 := Lib.hid m2; clear hown2 hgrow2 hat2 m2 l2)
    | (go_at_call 10; (with_reducible refine (HM.out _ (a ++ b) _ R2.out HR.out (by rw [Lab.out]; exact hl)).mono ?_); rintro ed w3 ⟨v3, s, rfl, t1, t2, t4, t5, t6, t7, t8⟩; have T1 := Lib.hid t1; have T2 := Lib.hid t2; have T5 := Lib.hid t5; have T6 := Lib.hid t6; have T7 := Lib.hid t7; clear t1 t2 t4 t5 t6 t7 t8)
    | fail)
  go_ret
  exact ⟨_, s, rfl, T1.out, T2.out, by rw [← Lab.out]; exact T5.out, T6.out, M2.out.trans T7.out⟩
end Go.Proofs
