/-
  How many numbers containers and a set have.
-/
import Derived.Test.YtbfjpbpohkidoaaGreatDoorIn
namespace Go.Roar
open Go.RowKit Go.Proofs

/-- How many numbers runs have, each its start and how many stand behind it. -/
def ivc (rs : List (Nat × Nat)) : Nat := (rs.map fun r => r.2 + 1).sum
theorem ivc_take {rs : List (Nat × Nat)} {k : Nat} {r : Nat × Nat} (h : rs[k]? = some r) : ivc (rs.take (k + 1)) = ivc (rs.take k) + (r.2 + 1) := by
  obtain ⟨hk, rfl⟩ := List.getElem?_eq_some_iff.1 h
  unfold ivc
  rw [List.take_succ_eq_append_getElem hk, List.map_append, List.sum_append]; simp
theorem ivc_le (rs : List (Nat × Nat)) (k : Nat) : ivc (rs.take k) ≤ ivc rs := by
  have : ivc rs = ivc (rs.take k) + ivc (rs.drop k) := by
    unfold ivc; rw [← List.sum_append, ← List.map_append, List.take_append_drop]
  omega
theorem ivc_len (rs : List (Nat × Nat)) : rs.length ≤ ivc rs := by
  induction rs with
  | nil => simp
  | cons r l ih => simp [ivc] at *; omega
theorem ivNums_length (rs : List (Nat × Nat)) : (ivNums rs).length = ivc rs := by
  induction rs with
  | nil => rfl
  | cons r l ih => rw [ivNums_cons, List.length_append, ih, List.length_range']; simp [ivc]

/-- How many numbers the container v says that it has. -/
def ConC (w : World) (H : Nat) (v : Value) (card : Nat) : Prop :=
  (∃ (q m c : Nat) (G : Option Addr), v = .iface 119 (.pointer (some ⟨q, 0, none⟩)) ∧ q < H ∧ w.cell? ⟨q, 0, none⟩ = some (.slice G m c) ∧ card = m) ∨
  (∃ (q g m c : Nat) (rs : List (Nat × Nat)), v = .iface 111 (.pointer (some ⟨q, 0, none⟩)) ∧ q < H ∧ g < H ∧ w.cell? ⟨q, 0, none⟩ = some (.slice (some ⟨g, 0, none⟩) m c) ∧ rs.length = m ∧ (∀ r ∈ rs, r.2 < 65536) ∧
    (∀ (i : Nat) (r : Nat × Nat), rs[i]? = some r → w.cell? ⟨g, i * 2, none⟩ = some (.int .u16 (r.1 : Int)) ∧ w.cell? ⟨g, i * 2 + 1, none⟩ = some (.int .u16 (r.2 : Int))) ∧ card = ivc rs) ∨
  (∃ (q : Nat), v = .iface 116 (.pointer (some ⟨q, 0, none⟩)) ∧ q < H ∧ w.cell? ⟨q, 0, none⟩ = some (.int .i64 (card : Int)))
theorem ConC.kept {S : Nat → Prop} {w w' : World} {H : Nat} {v : Value} {l : Nat} (h : ConC w H v l) (hk : Kept S w w') (hs : ∀ b, b < H → ¬ S b) : ConC w' H v l := by
  rcases h with ⟨q, m, c, G, a0, a1, a2, a3⟩ | ⟨q, g, m, c, rs, a0, a1, a2, a3, a4, a5, a6, a7⟩ | ⟨q, a0, a1, a2⟩
  · exact .inl ⟨q, m, c, G, a0, a1, hk.cell2 (hs _ a1) a2, a3⟩
  · exact .inr (.inl ⟨q, g, m, c, rs, a0, a1, a2, hk.cell2 (hs _ a1) a3, a4, a5, fun i r hr => ⟨hk.cell2 (hs _ a2) (a6 i r hr).1, hk.cell2 (hs _ a2) (a6 i r hr).2⟩, a7⟩)
  · exact .inr (.inr ⟨q, a0, a1, hk.cell2 (hs _ a1) a2⟩)
end Go.Roar
namespace Go.Proofs
open Go.RowKit Go.Roar

theorem acCard_any (q m c : Nat) (G : Option Addr) (w : World) (h : w.cell? ⟨q, 0, none⟩ = some (.slice G m c)) :
    Calls Tryz.prog 196 #[.pointer (some ⟨q, 0, none⟩)] w fun e w' => e = .returned (.int .i64 (m : Int)) ∧ Mild w w' := by
  go_enter Tryz.func196, Tryz.ntmps196
  go_wp2
  go_ret
  exact ⟨rfl, Kept.refl _ _⟩
theorem bcCard_any (q : Nat) (card : Nat) (w : World) (h : w.cell? ⟨q, 0, none⟩ = some (.int .i64 (card : Int))) :
    Calls Tryz.prog 143 #[.pointer (some ⟨q, 0, none⟩)] w fun e w' => e = .returned (.int .i64 (card : Int)) ∧ Mild w w' := by
  go_enter Tryz.func143, Tryz.ntmps143
  go_wp2
  go_ret
  exact ⟨rfl, Kept.refl _ _⟩
theorem rlen_any (a l : Nat) (w : World) (hb : l < 65536) :
    Calls Tryz.prog 131 #[.agg #[.int .u16 a, .int .u16 l]] w fun e w' => e = .returned (.int .i64 ((l + 1 : Nat) : Int)) ∧ Mild w w' := by
  go_enter Tryz.func131, Tryz.ntmps131
  go_wp2
  go_ret
  exact ⟨rfl, (Kept.refl _ _).alloc _⟩

set_option maxRecDepth 100000 in
set_option maxHeartbeats 1000000 in
theorem rcCardV_any (q g m c : Nat) (rs : List (Nat × Nat)) (w : World) (h : w.cell? ⟨q, 0, none⟩ = some (.slice (some ⟨g, 0, none⟩) m c)) (hl : rs.length = m) (hb : ∀ r ∈ rs, r.2 < 65536)
    (hc : ∀ (i : Nat) (r : Nat × Nat), rs[i]? = some r → w.cell? ⟨g, i * 2, none⟩ = some (.int .u16 (r.1 : Int)) ∧ w.cell? ⟨g, i * 2 + 1, none⟩ = some (.int .u16 (r.2 : Int))) (hn : ivc rs ≤ 100000000) (hm : m ≤ 100000000) :
    Calls Tryz.prog 88 #[.pointer (some ⟨q, 0, none⟩)] w fun e w' => e = .returned (.int .i64 (ivc rs : Nat)) ∧ Mild w w' := by
  have Hb := Lib.hid hb
  have Hc := Lib.hid hc
  have Hl := Lib.hid hl
  have Hle := Lib.hid (ivc_le rs)
  clear hb hc hl
  go_enter Tryz.func88, Tryz.ntmps88
  go_wp2
  go_loopw [11, 3] (fun i n wr => ∃ k : Nat, i = .int .i64 k ∧ n = .int .i64 (ivc (rs.take k) : Nat) ∧ k ≤ m ∧ Hid (Mild w wr)) (fun i _ _ => m - (intOf i).toNat)
  case atStart => exact ⟨0, rfl, rfl, Nat.zero_le _, Lib.hid (Kept.refl _ _)⟩
  case round =>
    obtain ⟨k, rfl, rfl, hk, Hm⟩ := hrel
    by_cases hlt : k < m
    · obtain ⟨r, hx⟩ : ∃ r, rs[k]? = some r := ⟨_, List.getElem?_eq_getElem (by rw [Hl.out]; exact hlt)⟩
      have hrr := Hb.out r (List.mem_of_getElem? hx)
      have ca := Hm.out.cell2 id (Hc.out k r hx).1
      have cb := Hm.out.cell2 id (Hc.out k r hx).2
      have hsu := ivc_take hx
      have hb2 := Hle.out (k + 1)
      have i1 : (k : Int) < (m : Int) := by omega
      have C := Lib.hid (fun (W : World) => rlen_any r.1 r.2 W hrr)
      clear hx
      go_wp2_with (first
        | (go_at_call 131; refine (C.out _).mono ?_; rintro ed w2 ⟨rfl, k2⟩))
      go_roundw
      case rel => exact ⟨k + 1, by go_num, by rw [hsu] at hb2 ⊢; go_num, by omega, Lib.hid (((Hm.out.alloc _).trans k2))⟩
      case measure => simp only [intOf]; omega
    · obtain rfl : k = m := by omega
      go_wp2
      go_ret
      have e : rs.take k = rs := by rw [← Hl.out, List.take_length]
      rw [e]
      exact ⟨rfl, Hm.out⟩

theorem ahead_acC (a : Addr) (w : World) : (nilAhead 298 119 (.pointer (some a)) "loop.example/pub-g03248/pub/roaring.getCardinality").run Tryz.prog w = .ok (some false) w := by kernel_rfl
theorem method_acC (a : Addr) (w : World) : (method 298 119 (.pointer (some a)) "loop.example/pub-g03248/pub/roaring.getCardinality").run Tryz.prog w = .ok (196, .pointer (some a)) w := by kernel_rfl
theorem ahead_rcC (a : Addr) (w : World) : (nilAhead 298 111 (.pointer (some a)) "loop.example/pub-g03248/pub/roaring.getCardinality").run Tryz.prog w = .ok (some false) w := by kernel_rfl
theorem method_rcC (a : Addr) (w : World) : (method 298 111 (.pointer (some a)) "loop.example/pub-g03248/pub/roaring.getCardinality").run Tryz.prog w = .ok (88, .pointer (some a)) w := by kernel_rfl
theorem ahead_bcC (a : Addr) (w : World) : (nilAhead 298 116 (.pointer (some a)) "loop.example/pub-g03248/pub/roaring.getCardinality").run Tryz.prog w = .ok (some false) w := by kernel_rfl
theorem method_bcC (a : Addr) (w : World) : (method 298 116 (.pointer (some a)) "loop.example/pub-g03248/pub/roaring.getCardinality").run Tryz.prog w = .ok (143, .pointer (some a)) w := by kernel_rfl

set_option maxRecDepth 100000 in
set_option maxHeartbeats 1000000 in
theorem bmCard_any (H p n c : Nat) (G : Option Addr) (cards : List Nat) (w : World) (h : w.cell? ⟨p, 1, none⟩ = some (.slice G n c)) (hl : cards.length = n) (hn : n ≤ 65536) (hs : cards.sum ≤ 100000000)
    (hc : ∀ (i : Nat) (x : Nat), cards[i]? = some x → ∃ gc v, G = some ⟨gc, 0, none⟩ ∧ w.cell? ⟨gc, i, none⟩ = some v ∧ ConC w H v x) :
    Calls Tryz.prog 19 #[.pointer (some ⟨p, 0, none⟩)] w fun e w' => e = .returned (.int .u64 (cards.sum : Nat)) ∧ Mild w w' := by
  have Hc := Lib.hid hc
  have Hl := Lib.hid hl
  have hts : ∀ (k x : Nat), cards[k]? = some x → (cards.take (k + 1)).sum = (cards.take k).sum + x ∧ (cards.take (k + 1)).sum ≤ 100000000 ∧ x ≤ 100000000 := by
    intro k x hx
    obtain ⟨hk, rfl⟩ := List.getElem?_eq_some_iff.1 hx
    have e1 : (cards.take (k + 1)).sum = (cards.take k).sum + cards[k] := by rw [List.take_succ_eq_append_getElem hk, List.sum_append]; simp
    have e2 : cards.sum = (cards.take (k + 1)).sum + (cards.drop (k + 1)).sum := by rw [← List.sum_append, List.take_append_drop]
    omega
  have Hts := Lib.hid hts
  clear hc hl hts
  go_enter Tryz.func19, Tryz.ntmps19
  go_wp2
  go_loopw [12, 3] (fun i n' wr => ∃ k : Nat, i = .int .i64 k ∧ n' = .int .u64 ((cards.take k).sum : Nat) ∧ k ≤ n ∧ Hid (Mild w wr)) (fun i _ _ => n - (intOf i).toNat)
  case atStart => exact ⟨0, rfl, rfl, Nat.zero_le _, Lib.hid (Kept.refl _ _)⟩
  case round =>
    obtain ⟨k, rfl, rfl, hk, Hm⟩ := hrel
    by_cases hlt : k < n
    · obtain ⟨x, hx⟩ : ∃ x, cards[k]? = some x := ⟨_, List.getElem?_eq_getElem (by rw [Hl.out]; exact hlt)⟩
      obtain ⟨gc, v, rfl, hcv, hcc⟩ := Hc.out k x hx
      have ca := Hm.out.cell2 id hcv
      obtain ⟨t1, t2, t3⟩ := Hts.out k x hx
      have i1 : (k : Int) < (n : Int) := by omega
      have hcc' := hcc.kept Hm.out (fun _ _ => id)
      generalize hT1 : (cards.take (k + 1)).sum = T1 at *
      generalize hT0 : (cards.take k).sum = T0 at *
      have HT1 := Lib.hid hT1
      clear hx hcv hcc hT1 hT0
      rcases hcc' with ⟨q, m, c', G', rfl, a1, a2, a3⟩ | ⟨q, g, m, c', rs, rfl, a1, a2, a3, a4, a5, a6, a7⟩ | ⟨q, rfl, a1, a2⟩
      · subst a3
        have n1 := ahead_acC ⟨q, 0, none⟩
        have n2 := method_acC ⟨q, 0, none⟩
        go_wp2_with (first
          | (go_at_call 196; refine (acCard_any q x c' G' _ a2).mono ?_; rintro ed w2 ⟨rfl, k2⟩))
        go_roundw
        case rel => exact ⟨k + 1, by go_num, by rw [HT1.out, t1]; go_num, by omega, Lib.hid (Hm.out.trans k2)⟩
        case measure => simp only [intOf]; omega
      · subst a7
        have C := Lib.hid (rcCardV_any q g m c' rs _ a3 a4 a5 a6 (by omega) (by have := ivc_len rs; omega))
        have n1 := ahead_rcC ⟨q, 0, none⟩
        have n2 := method_rcC ⟨q, 0, none⟩
        clear a6 a5
        generalize ivc rs = x at *
        go_wp2_with (first
          | (go_at_call 88; refine C.out.mono ?_; rintro ed w2 ⟨rfl, k2⟩))
        go_roundw
        case rel => exact ⟨k + 1, by go_num, by rw [HT1.out, t1]; go_num, by omega, Lib.hid (Hm.out.trans k2)⟩
        case measure => simp only [intOf]; omega
      · have n1 := ahead_bcC ⟨q, 0, none⟩
        have n2 := method_bcC ⟨q, 0, none⟩
        go_wp2_with (first
          | (go_at_call 143; refine (bcCard_any q x _ a2).mono ?_; rintro ed w2 ⟨rfl, k2⟩))
        go_roundw
        case rel => exact ⟨k + 1, by go_num, by rw [HT1.out, t1]; go_num, by omega, Lib.hid (Hm.out.trans k2)⟩
        case measure => simp only [intOf]; omega
    · obtain rfl : k = n := by omega
      go_wp2
      go_ret
      have e : cards.take k = cards := by rw [← Hl.out, List.take_length]
      rw [e]
      exact ⟨rfl, Hm.out⟩
end Go.Proofs
