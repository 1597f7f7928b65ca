/-
  spec.body at the kind 0: a list.
-/
import Derived.Test.YtbfjpbpohkidoaaGreatDoorFi
import Derived.Test.YtbfjpbpohkidoaaGreatDoorQpl
namespace Go.Roar
open Go.RowKit Go.Proofs
theorem flat_take {l : List Nat} {k x : Nat} (h : l[k]? = some x) : (l.take (k + 1)).flatMap enc16 = (l.take k).flatMap enc16 ++ enc16 x := by
  obtain ⟨hk, rfl⟩ := List.getElem?_eq_some_iff.1 h
  rw [List.take_succ_eq_append_getElem hk, List.flatMap_append]; simp
theorem u8s_each (l : List Nat) : ∀ u ∈ u8s l, u.oneCell' = true := by
  intro u hu
  unfold u8s at hu
  rw [List.mem_map] at hu
  obtain ⟨x, _, rfl⟩ := hu
  rfl
theorem own_news {w : World} {size : Nat} {e : TypeId} {g n c : Nat} {xs : List Value} (h : Own w size e (.slice (some ⟨g, 0, none⟩) n c) n xs) : ∀ (j : Nat) (u : Value), xs[j]? = some u → w.cell? ((⟨g, 0, none⟩ : Addr).add j) = some u := by
  intro j u hj
  have e : (⟨g, 0, none⟩ : Addr).add j = ⟨g, j, none⟩ := by
    unfold Addr.add
    by_cases hj0 : j = 0
    · subst hj0; simp
    · simp [hj0]
  rw [e]
  exact h.at hj
/-- What an append leaves of another slice. -/
theorem grow_apart {wa w4 : World} {v v' u : Value} {size n : Nat} {e : TypeId} {xs : List Value} (ho : Own wa size e u n xs) (hd : ∀ b ∈ blkOf u, b ∉ blkOf v) (hg : wa.grownBy w4 v.ownBlock) (hat : v'.ownBlock = v.ownBlock ∨ v'.ownBlock = some wa.heap.size) :
    Own w4 size e u n xs ∧ ∀ b ∈ blkOf u, b ∉ blkOf v' := by
  have hl := ho.lt
  refine ⟨ho.kept (Kept.grown (S := fun b => b ∈ blkOf v) (Kept.refl _ _) hg (fun k hk _ => by unfold blkOf; rw [hk]; simp)) hd, ?_⟩
  intro b hb h
  rcases hat with e | e
  · have := hd b hb
    unfold blkOf at h this; rw [e] at h; exact this h
  · have := hl b hb
    unfold blkOf at h; rw [e] at h; simp at h; omega
end Go.Roar
namespace Go.Proofs
open Go.RowKit Go.Roar

set_option maxRecDepth 100000 in
set_option maxHeartbeats 2000000 in
theorem body0_any (u : Value) (rs : List (Nat × Nat)) (w : World) (hu : RV w u rs) (hr : RgOK 65536 rs) (hc : rgCard rs ≤ 65536) (hl : rs.length ≤ 65536) :
    Calls Tryz.prog 14 #[u, .int .i64 0] w fun e w' => ∃ v, e = .returned v ∧ Own w' 1 5 v (bodyOf rs 0).length (u8s (bodyOf rs 0)) ∧ Mild w w' ∧ (∀ b ∈ blkOf v, w.heap.size ≤ b) := by
  obtain ⟨iU, u1, u2, u3, u4⟩ := info_parts infoU8
  have m0 : Mild w (w.alloc (.cells #[] 5)) := (Kept.refl _ _).alloc _
  have ow0 : Own (w.alloc (.cells #[] 5)) 1 5 (.slice (some ⟨w.heap.size, 0, none⟩) 0 0) 0 [] := ⟨rfl, .inr ⟨w.heap.size, 0, [], rfl, rfl, by unfold maxLen; omega, Blk.new w _ []⟩⟩
  have hFi := first_any u rs 65536 _ (hu.mild m0) (fun r hx => by have := hr.1 r hx; omega) hc (by omega) (by omega)
  have hlt := rgNums_lt hr
  have hlen := rgNums_length rs
  have hbd : bodyOf rs 0 = (rgNums rs).flatMap enc16 := by unfold bodyOf; rw [if_pos rfl]
  have M0 := Lib.hid m0
  have W0 := Lib.hid ow0
  have HF := Lib.hid hFi
  have Hlt := Lib.hid hlt
  have Hbd := Lib.hid hbd
  clear m0 ow0 hFi hlt hbd hu hr
  generalize rgNums rs = l at *
  have hl2 : l.length ≤ 65536 := by omega
  clear hlen hc hl
  generalize hll : l.length = n at *
  have Hll := Lib.hid hll
  clear hll
  go_enter Tryz.func14, Tryz.ntmps14
  go_wp2_with (first
    | (go_at_call 22; refine HF.out.mono ?_; rintro ed w2 ⟨vl, rfl, ol, k2, fl⟩; obtain ⟨A, c, rfl⟩ := ol.shape))
  have Hol := Lib.hid ol
  have hz : w.heap.size < (w.alloc (.cells #[] 5)).heap.size := by simp
  have Hd0 : Hid (∀ b ∈ blkOf (.slice A n c), b ∉ blkOf (.slice (some ⟨w.heap.size, 0, none⟩) 0 0)) := Lib.hid (fun b hb h => by have := fl b hb; simp at h; omega)
  have Hm2 : Hid (Mild w w2) := Lib.hid (M0.out.trans k2)
  have Hw2 : Hid (Own w2 1 5 (.slice (some ⟨w.heap.size, 0, none⟩) 0 0) 0 []) := Lib.hid (W0.out.kept k2 (fun _ _ => id))
  clear ol fl k2 hz
  go_loopw [22, 5] (fun i v wr => ∃ k : Nat, i = .int .i64 k ∧ k ≤ n ∧ Hid (Mild w wr) ∧ Hid (Own wr 1 5 v (2 * k) (u8s ((l.take k).flatMap enc16))) ∧ Hid (∀ b ∈ blkOf v, w.heap.size ≤ b) ∧ Hid (Own wr 1 3 (.slice A n c) n (i64s l)) ∧ Hid (∀ b ∈ blkOf (.slice A n c), b ∉ blkOf v)) (fun i _ _ => n - (intOf i).toNat)
  case atStart => exact ⟨0, rfl, Nat.zero_le _, Hm2, Hw2, Lib.hid (by simp), Hol, Hd0⟩
  case round =>
    obtain ⟨k, rfl, hk, Hm, Ho, Hf, Hi, Hd⟩ := hrel
    obtain ⟨B, d, rfl⟩ := Ho.out.shape
    by_cases hlt : k < n
    · obtain ⟨g, kk, rr, hv, _, _, hbk⟩ := Hi.out.open (by omega)
      simp only [Value.slice.injEq] at hv
      obtain ⟨rfl, _, rfl⟩ := hv
      obtain ⟨x, hx⟩ : ∃ x, l[k]? = some x := ⟨_, List.getElem?_eq_getElem (by rw [Hll.out]; exact hlt)⟩
      have hx16 := Hlt.out x (List.mem_of_getElem? hx)
      have cx : wr.cell? ⟨g, k, none⟩ = some (.int .i64 (x : Int)) := Hi.out.at (by simp [i64s, hx])
      have i1 : (k : Int) < (n : Int) := by omega
      have hs : u8s ((l.take (k + 1)).flatMap enc16) = u8s ((l.take k).flatMap enc16) ++ u8s (enc16 x) := by rw [flat_take hx, u8s_append]
      have Hs := Lib.hid hs
      have L := Lib.hid (little_any x 2 wr (by omega) (by omega))
      rw [lit_two hx16] at L
      clear hs hx hbk
      go_wp2_with (first
        | (go_at_call 13; refine L.out.mono ?_; rintro ed w3 ⟨v3, rfl, o3, k3, f3⟩; obtain ⟨g3, q3, r3, rfl, _, _, _⟩ := o3.open (by omega))
        | (at_builtin; refine wpList_append_own_at _ rfl _ _ 34 rfl 0 5 iU (.int .u8 0) 1 1 undU8s u1 u2 u3 u4 rfl (by decide) _ (2 * k) (u8s ((l.take k).flatMap enc16)) rfl (Ho.out.kept k3 (fun _ _ => id)).toRow ⟨g3, 0, none⟩ 2 (2 + q3) (u8s (enc16 x)) rfl rfl (own_news o3) (u8s_each _) (by unfold maxLen; omega) (by omega) (Nat.zero_le _) ?_; intro v' w4 hown' hgrow hnil hat))
      have own4 := Own.ofRow hown'
      rw [← Hs.out, show 2 * k + 2 = 2 * (k + 1) by omega] at own4
      obtain ⟨kG, fG⟩ := grow_mild (v := .slice B (2 * k) d) Hm.out k3 hgrow Hf.out hat
      obtain ⟨oG, dG⟩ := grow_apart (v := .slice B (2 * k) d) (Hi.out.kept k3 (fun _ _ => id)) Hd.out hgrow hat
      go_roundw
      case rel => exact ⟨k + 1, by go_num, by omega, Lib.hid kG, Lib.hid own4, Lib.hid fG, Lib.hid oG, Lib.hid dG⟩
      case measure => simp only [intOf]; omega
    · obtain rfl : k = n := by omega
      go_wp2
      go_ret
      have e : l.take k = l := by rw [← Hll.out, List.take_length]
      have ho := Ho.out
      rw [e, ← Hbd.out] at ho
      have e2 : (bodyOf rs 0).length = 2 * k := by have := ho.len; simp at this; omega
      exact ⟨_, rfl, by rw [e2]; exact ho, Hm.out, Hf.out⟩
end Go.Proofs
