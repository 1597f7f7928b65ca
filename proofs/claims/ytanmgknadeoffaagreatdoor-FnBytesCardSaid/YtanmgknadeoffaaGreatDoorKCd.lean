/-
  How many numbers a set has.
-/
import Derived.Test.YtanmgknadeoffaaGreatDoorJCc
namespace Go.Proofs
open Go.RowKit Go.Roar

set_option maxRecDepth 100000 in
set_option maxHeartbeats 1000000 in
theorem bmCard_any (H p n c : Nat) (G : Option Addr) (cards : List Nat) (w : World) (h : w.cell? ⟨p, 1, none⟩ = some (.slice G n c)) (hl : cards.length = n) (hn : n ≤ 65536) (hs : cards.sum ≤ 100000000)
    (hc : ∀ (i : Nat) (x : Nat), cards[i]? = some x → ∃ gc v, G = some ⟨gc, 0, none⟩ ∧ w.cell? ⟨gc, i, none⟩ = some v ∧ ConC w H v x) :
    Calls Tryz.prog 30 #[.pointer (some ⟨p, 0, none⟩)] w fun e w' => e = .returned (.int .u64 (cards.sum : Nat)) ∧ Mild w w' := by
  have Hc := Lib.hid hc
  have Hl := Lib.hid hl
  have hts : ∀ (k x : Nat), cards[k]? = some x → (cards.take (k + 1)).sum = (cards.take k).sum + x ∧ (cards.take (k + 1)).sum ≤ 100000000 ∧ x ≤ 100000000 := by
    intro k x hx
    obtain ⟨hk, rfl⟩ := List.getElem?_eq_some_iff.1 hx
    have e1 : (cards.take (k + 1)).sum = (cards.take k).sum + cards[k] := by rw [List.take_succ_eq_append_getElem hk, List.sum_append]; simp
    have e2 : cards.sum = (cards.take (k + 1)).sum + (cards.drop (k + 1)).sum := by rw [← List.sum_append, List.take_append_drop]
    omega
  have Hts := Lib.hid hts
  clear hc hl hts
  go_enter Tryz.func30, Tryz.ntmps30
  go_wp2
  go_loopw [12, 3] (fun i n' wr => ∃ k : Nat, i = .int .i64 k ∧ n' = .int .u64 ((cards.take k).sum : Nat) ∧ k ≤ n ∧ Hid (Mild w wr)) (fun i _ _ => n - (intOf i).toNat)
  case atStart => exact ⟨0, rfl, rfl, Nat.zero_le _, Lib.hid (Kept.refl _ _)⟩
  case round =>
    obtain ⟨k, rfl, rfl, hk, Hm⟩ := hrel
    by_cases hlt : k < n
    · obtain ⟨x, hx⟩ : ∃ x, cards[k]? = some x := ⟨_, List.getElem?_eq_getElem (by rw [Hl.out]; exact hlt)⟩
      obtain ⟨gc, v, rfl, hcv, hcc⟩ := Hc.out k x hx
      have ca := Hm.out.cell2 id hcv
      obtain ⟨t1, t2, t3⟩ := Hts.out k x hx
      have i1 : (k : Int) < (n : Int) := by omega
      have hcc' := hcc.kept Hm.out (fun _ _ => id)
      generalize hT1 : (cards.take (k + 1)).sum = T1 at *
      generalize hT0 : (cards.take k).sum = T0 at *
      have HT1 := Lib.hid hT1
      clear hx hcv hcc hT1 hT0
      rcases hcc' with ⟨q, m, c', G', rfl, a1, a2, a3⟩ | ⟨q, g, m, c', rs, rfl, a1, a2, a3, a4, a5, a6, a7⟩ | ⟨q, rfl, a1, a2⟩
      · subst a3
        have n1 := ahead_acC ⟨q, 0, none⟩
        have n2 := method_acC ⟨q, 0, none⟩
        go_wp2_with (first
          | (go_at_call 95; refine (acCardC_any q x c' G' _ a2).mono ?_; rintro ed w2 ⟨rfl, k2⟩))
        go_roundw
        case rel => exact ⟨k + 1, by go_num, by rw [HT1.out, t1]; go_num, by omega, Lib.hid (Hm.out.trans k2)⟩
        case measure => simp only [intOf]; omega
      · subst a7
        have C := Lib.hid (rcCardV_any q g m c' rs _ a3 a4 a5 a6 (by omega) (by have := ivc_len rs; omega))
        have n1 := ahead_rcC ⟨q, 0, none⟩
        have n2 := method_rcC ⟨q, 0, none⟩
        clear a6 a5
        generalize ivc rs = x at *
        go_wp2_with (first
          | (go_at_call 80; refine C.out.mono ?_; rintro ed w2 ⟨rfl, k2⟩))
        go_roundw
        case rel => exact ⟨k + 1, by go_num, by rw [HT1.out, t1]; go_num, by omega, Lib.hid (Hm.out.trans k2)⟩
        case measure => simp only [intOf]; omega
      · have n1 := ahead_bcC ⟨q, 0, none⟩
        have n2 := method_bcC ⟨q, 0, none⟩
        go_wp2_with (first
          | (go_at_call 208; refine (bcCardC_any q x _ a2).mono ?_; rintro ed w2 ⟨rfl, k2⟩))
        go_roundw
        case rel => exact ⟨k + 1, by go_num, by rw [HT1.out, t1]; go_num, by omega, Lib.hid (Hm.out.trans k2)⟩
        case measure => simp only [intOf]; omega
    · obtain rfl : k = n := by omega
      go_wp2
      go_ret
      have e : cards.take k = cards := by rw [← Hl.out, List.take_length]
      rw [e]
      exact ⟨rfl, Hm.out⟩
end Go.Proofs
