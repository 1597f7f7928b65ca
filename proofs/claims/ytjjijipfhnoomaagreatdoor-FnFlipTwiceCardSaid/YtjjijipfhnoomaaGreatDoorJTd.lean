/-
  impl.told: the numbers of a set, told as spans.
  impl.told of a set in memory.
-/
import Derived.Test.YtjjijipfhnoomaaGreatDoorKTdp
import Derived.Test.YtjjijipfhnoomaaGreatDoorJMd
namespace Go.Proofs
open Go.RowKit Go.Roar

set_option maxRecDepth 100000 in
set_option maxHeartbeats 2000000 in
theorem told_any (p : Nat) (ps : List (Nat × List Nat)) (w : World) (hW : Whole w w.heap.size p ps) (hs : (nums ps).Pairwise (· < ·)) (hb : ∀ x ∈ nums ps, x < 4294967296) (hN : (nums ps).length ≤ 1000000) :
    Calls Tryz.prog 21 #[.pointer (some ⟨p, 0, none⟩)] w fun e w' => ∃ v, e = .returned v ∧ Own w' 2 43 v ((nums ps).foldl tell []).length (rgCells ((nums ps).foldl tell [])) ∧ Mild w w' ∧ (∀ b ∈ blkOf v, w.heap.size ≤ b) := by
  obtain ⟨iS, u1, u2, u3, u4⟩ := info_parts infoSpan
  have C0 := Lib.hid (bmIter_any p ps w hW)
  have HW := Lib.hid hW
  have Hs := Lib.hid hs
  have Hb := Lib.hid hb
  have n1 := ahead_hn ⟨w.heap.size, 0, none⟩
  have n2 := method_hn ⟨w.heap.size, 0, none⟩
  have n3 := ahead_nx ⟨w.heap.size, 0, none⟩
  have n4 := method_nx ⟨w.heap.size, 0, none⟩
  clear hW hs hb
  go_enter Tryz.func21, Tryz.ntmps21
  go_wp2_with (first
    | (go_at_call 39; refine C0.out.mono ?_; rintro ed w1 ⟨rfl, k1, it1⟩))
  have Hit := Lib.hid it1
  clear it1
  have HN := Lib.hid hN
  clear hN
  go_loopw [3] (fun v wr => ∃ (l : List Nat) (d : List Nat), Hid (nums ps = d ++ l) ∧ Hid (TInv w wr w.heap.size p ps v l (d.foldl tell []))) (fun v wr => (nums ps).length - cnt v wr)
  case atStart => exact ⟨nums ps, [], Lib.hid rfl, Lib.hid ⟨Own.nil _ _ _, Hit.out, HW.out.kept k1 (fun _ _ => id), k1, by simp, fun r hr => by simp at hr, by simp [rgCard]⟩⟩
  case round =>
    obtain ⟨l, d, Hd, HI⟩ := hrel
    obtain ⟨cs, it⟩ := HI.out.it
    have C1 := Lib.hid (iiHas_any w.heap.size w.heap.size p ps wr cs l it HI.out.whole)
    have Hit2 := Lib.hid it
    clear it Hit C0
    rcases l with _ | ⟨x, l⟩
    · have e : decide (([] : List Nat) ≠ []) = false := by simp
      rw [e] at C1
      go_wp2_with (first
        | (go_at_call 250; refine C1.out.mono ?_; rintro ed w2 ⟨rfl, k2⟩))
      go_ret
      have hd := Hd.out
      rw [List.append_nil] at hd
      rw [hd]
      exact ⟨_, rfl, HI.out.own.kept k2 (fun _ _ => id), HI.out.kept.trans k2, fun b hb => (HI.out.off b hb).1⟩
    · have e : decide ((x :: l) ≠ []) = true := by simp
      rw [e] at C1
      clear e
      have hd := Hd.out
      have hx32 : x < 4294967296 := Hb.out x (by rw [hd]; simp)
      have hpw : (x :: l).Pairwise (· < ·) := by have := Hs.out; rw [hd] at this; exact (List.pairwise_append.1 this).2.1
      have ft := HI.out.fit.tell hpw
      have HF := Lib.hid ft
      have hcard := HI.out.card
      have hol := tells_length d []
      have hdl : d.length + (l.length + 1) = (nums ps).length := by rw [hd]; simp
      have hN := HN.out
      have hlen : (d.foldl tell []).length ≤ 1000000 := by simp at hol; omega
      have Hcard := Lib.hid hcard
      have HHd : Hid (nums ps = (d ++ [x]) ++ l) := Lib.hid (by rw [hd]; simp)
      have hfo : (d ++ [x]).foldl tell [] = tell (d.foldl tell []) x := by rw [List.foldl_append]; rfl
      have HFo := Lib.hid hfo
      have C2 := Lib.hid (fun (w2 : World) (k2 : Mild wr w2) => iiNext_any w.heap.size w.heap.size p ps x w2 cs l (Hit2.out.kept k2 (fun _ _ => id) id) (HI.out.whole.kept k2 (fun _ _ => id)) (Nat.le_refl _))
      have ho := HI.out.own
      have hoff := HI.out.off
      have HT := Lib.hid (tell_cases (d.foldl tell []) x)
      have hcnt := cnt_of ho
      have Hcnt := Lib.hid hcnt
      clear hd hpw ft hcard hol hdl hN hfo hcnt Hd Hit2
      generalize d.foldl tell [] = out at *
      have hK3 : ∀ w2 w3 : World, Mild wr w2 → Kept (fun k => k = w.heap.size) w2 w3 → Kept (fun k => k = w.heap.size) wr w3 := fun w2 w3 a b => (a.mono (fun _ _ => False.elim)).trans b
      have HK3 := Lib.hid hK3
      clear hK3
      rcases HT.out with ⟨m, a, ho2, h0, e⟩ | ⟨e, hne⟩
      · obtain ⟨g, k, r, rfl, hr, hm, hbk⟩ := ho.open (by rw [ho2]; simp)
        have hml : out.length = m.length + 1 := by rw [ho2]; simp
        rw [hml] at hm
        have hcx : (rgCells out ++ r)[m.length * 2 + 1]? = some (.int .u32 ((x - 1 : Nat) : Int)) := by
          rw [ho2, rgCells_append, List.append_assoc, List.getElem?_append_right (by rw [rgCells_length]; omega), rgCells_length]
          simp [rgCells]
        have hset : (rgCells out ++ r).set (m.length * 2 + 1) (.int .u32 (x : Int)) = rgCells (tell out x) ++ r := by
          rw [e, ho2, rgCells_append, rgCells_append, List.append_assoc, List.append_assoc, List.set_append_right _ _ (by rw [rgCells_length]; omega), rgCells_length]
          simp [rgCells]
        have hlt : (tell out x).length = m.length + 1 := by rw [e]; simp
        have hg1 := hoff g (by simp)
        have gne : ¬ g = w.heap.size := hg1.2
        have cc := (hbk.cell (m.length * 2 + 1)).trans hcx
        have Hbk := Lib.hid hbk
        have Hset := Lib.hid hset
        have He := Lib.hid e
        have w1 : IntKind.u32.wrap (((x - 1 : Nat) : Int) + 1) = (x : Int) := by rw [IntWalk.u32_in _ (by omega)]; omega
        have x0 : ((x : Int) != 0) = true := by simp; omega
        have hmm : m.length ≤ 1000000 := by omega
        clear hbk hset hcx ho hoff e
        rw [hml]
        generalize m.length = ml at *
        go_wp2_with (first
          | (go_at_call 250; refine C1.out.mono ?_; rintro ed w2 ⟨rfl, k2⟩)
          | (go_at_call 251; refine (C2.out w2 k2).mono ?_; rintro ed w3 ⟨rfl, k3, it3⟩; have k23 := HK3.out w2 w3 k2 k3; have cc3 := k23.cell2 gne cc; have hb3 := Hbk.out.kept k23 gne; have fr := hb3.free (ml * 2 + 1)))
        have hb4 := hb3.set (ml * 2 + 1) (.int .u32 (x : Int))
        rw [Hset.out] at hb4
        have own4 : Own (w3.setCell ⟨g, ml * 2 + 1, none⟩ (.int .u32 (x : Int))) 2 43 (.slice (some ⟨g, 0, none⟩) (ml + 1) (ml + 1 + k)) (tell out x).length (rgCells (tell out x)) :=
          ⟨rgCells_length _, .inr ⟨g, k, r, by rw [hlt], hr, by rw [hlt]; exact hm, hb4⟩⟩
        have hks : Kept (fun b => b = g) w3 (w3.setCell ⟨g, ml * 2 + 1, none⟩ (.int .u32 (x : Int))) := Kept.one w3 g _ _
        have hci := Hcnt.out
        rw [hml] at hci
        refine ⟨⟨l, d ++ [x], HHd, Lib.hid ?_⟩, ?_⟩
        · rw [HFo.out]
          refine ⟨own4, ?_, (HI.out.whole.kept k23 (fun b hb => by omega)).kept hks (fun b hb => by omega), Kept.then (Kept.then HI.out.kept k23 (fun b hb h => by omega)) hks (fun b hb h => by omega), ?_, HF.out.1, by rw [HF.out.2]; have := Hcard.out; simp at this; omega⟩
          · obtain ⟨cs', h⟩ := it3; exact ⟨cs', h.kept hks (fun b hb => by omega) (by omega)⟩
          · intro b hb; simp at hb; subst hb; exact hg1
        · rw [cnt_of own4, hci, HF.out.2]
          have := Hcard.out
          simp at this
          omega
      · have He := Lib.hid e
        have hlt : (tell out x).length = out.length + 1 := by rw [e]; simp
        have hcells : rgCells (tell out x) = rgCells out ++ [.int .u32 (x : Int), .int .u32 (x : Int)] := by rw [e, rgCells_append]; rfl
        have Hce := Lib.hid hcells
        have Hlt := Lib.hid hlt
        clear e hcells hlt
        have Hown := Lib.hid ho
        rcases List.eq_nil_or_concat out with rfl | ⟨m, ⟨a, b⟩, hm⟩
        · obtain ⟨A, c, rfl⟩ := ho.form
          clear ho hoff
          go_wp2_with (first
            | (go_at_call 250; refine C1.out.mono ?_; rintro ed w2 ⟨rfl, k2⟩)
            | (go_at_call 251; refine (C2.out w2 k2).mono ?_; rintro ed w3 ⟨rfl, k3, it3⟩; have k23 := HK3.out w2 w3 k2 k3; have own3 := Hown.out.kept k23 (fun b hb => (HI.out.off b hb).2))
            | (at_builtin; refine wpList_append_own_at _ rfl _ _ 22 rfl 0 43 iS (.agg #[.int .u32 0, .int .u32 0]) 2 8 undSpans u1 u2 u3 u4 rfl (by decide) _ 0 [] rfl (own3.alloc _).toRow ⟨w3.heap.size, 0, none⟩ 1 1 [.int .u32 (x : Int), .int .u32 (x : Int)] rfl rfl (cell_two_new _ _ _ _) (by intro u hu; simp at hu; rcases hu with rfl | rfl <;> rfl) (by unfold maxLen; omega) (by omega) (Nat.zero_le _) ?_; intro v' w4 hown' hgrow hnil hat))
          have own4 := Own.ofRow hown'
          rw [show 0 + 1 = (tell [] x).length from rfl] at own4
          have kA : Mild w3 (w3.alloc (.cells #[.int .u32 (x : Int), .int .u32 (x : Int)] 43)) := (Kept.refl _ _).alloc _
          replace hgrow : (w3.alloc (.cells #[.int .u32 (x : Int), .int .u32 (x : Int)] 43)).grownBy w4 (Value.ownBlock (.slice A 0 c)) := hgrow
          replace hat : v'.ownBlock = Value.ownBlock (.slice A 0 c) ∨ v'.ownBlock = some (w3.alloc (.cells #[.int .u32 (x : Int), .int .u32 (x : Int)] 43)).heap.size := hat
          have kG := Kept.grown (S := fun b => b ∈ blkOf (.slice A 0 c)) (kA.mono (fun _ _ => False.elim)) hgrow (fun kk hk _ => by rw [show blkOf (.slice A 0 c) = (Value.ownBlock (.slice A 0 c)).toList from rfl, hk]; simp)
          have hsz := k23.size
          have hszw := HI.out.kept.size
          have hIsz : w.heap.size < wr.heap.size := by obtain ⟨_, h⟩ := HI.out.it; exact h.blk.lt
          have hoff' := HI.out.off
          refine ⟨⟨l, d ++ [x], HHd, Lib.hid ?_⟩, ?_⟩
          · rw [HFo.out]
            refine ⟨own4, ?_, (HI.out.whole.kept k23 (fun b hb => by omega)).kept kG (fun b hb h => by have := (hoff' b h).1; omega), Kept.then (Kept.then HI.out.kept k23 (fun b hb h => by omega)) kG (fun b hb h => by have := (hoff' b h).1; omega), ?_, HF.out.1, by rw [HF.out.2]; have := Hcard.out; simp at this ⊢; omega⟩
            · obtain ⟨cs', h⟩ := it3; exact ⟨cs', h.kept kG (fun b hb h => by have := (hoff' b h).1; omega) (fun h => (hoff' _ h).2 rfl)⟩
            · intro b hb
              rcases hat with h | h
              · exact hoff' b (by show b ∈ (Value.ownBlock (.slice A 0 c)).toList; rw [← h]; exact hb)
              · unfold blkOf at hb; rw [h] at hb; simp at hb; subst hb; omega
          · rw [cnt_of own4, Hcnt.out, HF.out.2]
            have := Hcard.out
            simp at this ⊢
            omega
        · rw [List.concat_eq_append] at hm
          obtain ⟨g, k, r, rfl, hr, hk, hbk⟩ := ho.open (by rw [hm]; simp)
          have hml : out.length = m.length + 1 := by rw [hm]; simp
          have hcx : (rgCells out ++ r)[m.length * 2 + 1]? = some (.int .u32 (b : Int)) := by
            rw [hm, rgCells_append, List.append_assoc, List.getElem?_append_right (by rw [rgCells_length]; omega), rgCells_length]
            simp [rgCells]
          have hbx : b + 1 < x := by
            have h1 := (HI.out.fit (a, b) (by rw [hm]; simp)).2 x (by simp)
            have h2 := hne m a b hm
            dsimp only at h1
            omega
          have gne : ¬ g = w.heap.size := (hoff g (by simp)).2
          have cc := (hbk.cell (m.length * 2 + 1)).trans hcx
          have w1 : IntKind.u32.wrap ((b : Int) + 1) = (b : Int) + 1 := IntWalk.u32_in _ (by omega)
          have x0 : ((b : Int) + 1 == (x : Int)) = false := by simp; omega
          clear ho hoff hbk hcx hne
          generalize out.length = ol at *
          subst hml
          generalize m.length = ml at *
          go_wp2_with (first
            | (go_at_call 250; refine C1.out.mono ?_; rintro ed w2 ⟨rfl, k2⟩)
            | (go_at_call 251; refine (C2.out w2 k2).mono ?_; rintro ed w3 ⟨rfl, k3, it3⟩; have k23 := HK3.out w2 w3 k2 k3; have own3 := Hown.out.kept k23 (fun b hb => (HI.out.off b hb).2); have cc3 := k23.cell2 gne cc)
            | (at_builtin; refine wpList_append_own_at _ rfl _ _ 22 rfl 0 43 iS (.agg #[.int .u32 0, .int .u32 0]) 2 8 undSpans u1 u2 u3 u4 rfl (by decide) _ (ml + 1) (rgCells out) rfl (own3.alloc _).toRow ⟨w3.heap.size, 0, none⟩ 1 1 [.int .u32 (x : Int), .int .u32 (x : Int)] rfl rfl (cell_two_new _ _ _ _) (by intro u hu; simp at hu; rcases hu with rfl | rfl <;> rfl) (by unfold maxLen; omega) (by omega) (Nat.zero_le _) ?_; intro v' w4 hown' hgrow hnil hat))
          have own4 := Own.ofRow hown'
          rw [← Hce.out, ← Hlt.out] at own4
          have kA : Mild w3 (w3.alloc (.cells #[.int .u32 (x : Int), .int .u32 (x : Int)] 43)) := (Kept.refl _ _).alloc _
          replace hgrow : (w3.alloc (.cells #[.int .u32 (x : Int), .int .u32 (x : Int)] 43)).grownBy w4 (Value.ownBlock (.slice (some ⟨g, 0, none⟩) (ml + 1) (ml + 1 + k))) := hgrow
          replace hat : v'.ownBlock = Value.ownBlock (.slice (some ⟨g, 0, none⟩) (ml + 1) (ml + 1 + k)) ∨ v'.ownBlock = some (w3.alloc (.cells #[.int .u32 (x : Int), .int .u32 (x : Int)] 43)).heap.size := hat
          have kG := Kept.grown (S := fun b => b ∈ blkOf (.slice (some ⟨g, 0, none⟩) (ml + 1) (ml + 1 + k))) (kA.mono (fun _ _ => False.elim)) hgrow (fun kk hk _ => by rw [show blkOf (.slice (some ⟨g, 0, none⟩) (ml + 1) (ml + 1 + k)) = (Value.ownBlock (.slice (some ⟨g, 0, none⟩) (ml + 1) (ml + 1 + k))).toList from rfl, hk]; simp)
          have hsz := k23.size
          have hszw := HI.out.kept.size
          have hIsz : w.heap.size < wr.heap.size := by obtain ⟨_, h⟩ := HI.out.it; exact h.blk.lt
          have hoff' := HI.out.off
          refine ⟨⟨l, d ++ [x], HHd, Lib.hid ?_⟩, ?_⟩
          · rw [HFo.out]
            refine ⟨own4, ?_, (HI.out.whole.kept k23 (fun b hb => by omega)).kept kG (fun b hb h => by have := (hoff' b h).1; omega), Kept.then (Kept.then HI.out.kept k23 (fun b hb h => by omega)) kG (fun b hb h => by have := (hoff' b h).1; omega), ?_, HF.out.1, by rw [HF.out.2]; have := Hcard.out; simp at this ⊢; omega⟩
            · obtain ⟨cs', h⟩ := it3; exact ⟨cs', h.kept kG (fun b hb h => by have := (hoff' b h).1; omega) (fun h => (hoff' _ h).2 rfl)⟩
            · intro b hb
              rcases hat with h | h
              · exact hoff' b (by show b ∈ (Value.ownBlock (.slice (some ⟨g, 0, none⟩) (ml + 1) (ml + 1 + k))).toList; rw [← h]; exact hb)
              · unfold blkOf at hb; rw [h] at hb; simp at hb; subst hb; omega
          · rw [cnt_of own4, Hcnt.out, HF.out.2]
            have := Hcard.out
            simp at this ⊢
            omega
end Go.Proofs

namespace Go.Proofs
open Go.RowKit Go.Roar
theorem toldB_any (p : Nat) (t : TypeId) (vk vc vw : Value) (q : List Kon) (s : List (Nat × Nat)) (w : World) (ok : OKP (psOf q)) (h : Parts w (BMP p t vk vc vw q)) (hT : Tab w) (hTs : 0 < w.heap.size) (hs : RgOK 4294967296 s) (he : allN (psOf q) = rgNums s) (hc : rgCard s ≤ 1000000) :
    Calls Tryz.prog 21 #[.pointer (some ⟨p, 0, none⟩)] w fun e w' => ∃ v, e = .returned v ∧ Own w' 2 43 v s.length (rgCells s) ∧ Mild w w' ∧ (∀ b ∈ blkOf v, w.heap.size ≤ b) := by
  have hW := whole_of (H := w.heap.size) h ok hT hTs h.lt
  have hn := allN_sorted ok
  have hl := allN_lt ok
  have hlen : (nums (psOf q)).length ≤ 1000000 := by rw [nums_allN, he, rgNums_length]; exact hc
  have := told_any p (psOf q) w hW (by rw [nums_allN]; exact hn) (by rw [nums_allN]; exact hl) hlen
  rw [nums_allN, he, tell_back hs] at this
  exact this
end Go.Proofs
