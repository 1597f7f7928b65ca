/-
  How many numbers containers have.
  How many numbers a container has: the method, by the container's type.
  One number taken out of a container of any kind; whether a container is empty: the methods, by the container's type.
-/
import Derived.Test.YtjjijipfhnoomaaGreatDoorKIn
import Derived.Test.YtjjijipfhnoomaaGreatDoorKEf
import Derived.Test.YtjjijipfhnoomaaGreatDoorJOra
import Derived.Test.YtjjijipfhnoomaaGreatDoorJRe0
namespace Go.Roar
open Go.RowKit Go.Proofs

/-- How many numbers runs have, each its start and how many stand behind it. -/
def ivc (rs : List (Nat × Nat)) : Nat := (rs.map fun r => r.2 + 1).sum
theorem ivc_take {rs : List (Nat × Nat)} {k : Nat} {r : Nat × Nat} (h : rs[k]? = some r) : ivc (rs.take (k + 1)) = ivc (rs.take k) + (r.2 + 1) := by
  obtain ⟨hk, rfl⟩ := List.getElem?_eq_some_iff.1 h
  unfold ivc
  rw [List.take_succ_eq_append_getElem hk, List.map_append, List.sum_append]; simp
theorem ivc_le (rs : List (Nat × Nat)) (k : Nat) : ivc (rs.take k) ≤ ivc rs := by
  have : ivc rs = ivc (rs.take k) + ivc (rs.drop k) := by
    unfold ivc; rw [← List.sum_append, ← List.map_append, List.take_append_drop]
  omega
theorem ivc_len (rs : List (Nat × Nat)) : rs.length ≤ ivc rs := by
  induction rs with
  | nil => simp
  | cons r l ih => simp [ivc] at *; omega
theorem ivNums_length (rs : List (Nat × Nat)) : (ivNums rs).length = ivc rs := by
  induction rs with
  | nil => rfl
  | cons r l ih => rw [ivNums_cons, List.length_append, ih, List.length_range']; simp [ivc]

/-- How many numbers the container v says that it has. -/
def ConC (w : World) (H : Nat) (v : Value) (card : Nat) : Prop :=
  (∃ (q m c : Nat) (G : Option Addr), v = .iface 82 (.pointer (some ⟨q, 0, none⟩)) ∧ q < H ∧ w.cell? ⟨q, 0, none⟩ = some (.slice G m c) ∧ card = m) ∨
  (∃ (q g m c : Nat) (rs : List (Nat × Nat)), v = .iface 90 (.pointer (some ⟨q, 0, none⟩)) ∧ q < H ∧ g < H ∧ w.cell? ⟨q, 0, none⟩ = some (.slice (some ⟨g, 0, none⟩) m c) ∧ rs.length = m ∧ (∀ r ∈ rs, r.2 < 65536) ∧
    (∀ (i : Nat) (r : Nat × Nat), rs[i]? = some r → w.cell? ⟨g, i * 2, none⟩ = some (.int .u16 (r.1 : Int)) ∧ w.cell? ⟨g, i * 2 + 1, none⟩ = some (.int .u16 (r.2 : Int))) ∧ card = ivc rs) ∨
  (∃ (q : Nat), v = .iface 99 (.pointer (some ⟨q, 0, none⟩)) ∧ q < H ∧ w.cell? ⟨q, 0, none⟩ = some (.int .i64 (card : Int)))
theorem ConC.kept {S : Nat → Prop} {w w' : World} {H : Nat} {v : Value} {l : Nat} (h : ConC w H v l) (hk : Kept S w w') (hs : ∀ b, b < H → ¬ S b) : ConC w' H v l := by
  rcases h with ⟨q, m, c, G, a0, a1, a2, a3⟩ | ⟨q, g, m, c, rs, a0, a1, a2, a3, a4, a5, a6, a7⟩ | ⟨q, a0, a1, a2⟩
  · exact .inl ⟨q, m, c, G, a0, a1, hk.cell2 (hs _ a1) a2, a3⟩
  · exact .inr (.inl ⟨q, g, m, c, rs, a0, a1, a2, hk.cell2 (hs _ a1) a3, a4, a5, fun i r hr => ⟨hk.cell2 (hs _ a2) (a6 i r hr).1, hk.cell2 (hs _ a2) (a6 i r hr).2⟩, a7⟩)
  · exact .inr (.inr ⟨q, a0, a1, hk.cell2 (hs _ a1) a2⟩)
end Go.Roar
namespace Go.Proofs
open Go.RowKit Go.Roar

theorem acCardC_any (q m c : Nat) (G : Option Addr) (w : World) (h : w.cell? ⟨q, 0, none⟩ = some (.slice G m c)) :
    Calls Tryz.prog 74 #[.pointer (some ⟨q, 0, none⟩)] w fun e w' => e = .returned (.int .i64 (m : Int)) ∧ Mild w w' := by
  go_enter Tryz.func74, Tryz.ntmps74
  go_wp2
  go_ret
  exact ⟨rfl, Kept.refl _ _⟩
theorem bcCardC_any (q : Nat) (card : Nat) (w : World) (h : w.cell? ⟨q, 0, none⟩ = some (.int .i64 (card : Int))) :
    Calls Tryz.prog 165 #[.pointer (some ⟨q, 0, none⟩)] w fun e w' => e = .returned (.int .i64 (card : Int)) ∧ Mild w w' := by
  go_enter Tryz.func165, Tryz.ntmps165
  go_wp2
  go_ret
  exact ⟨rfl, Kept.refl _ _⟩
theorem rlenC_any (a l : Nat) (w : World) (hb : l < 65536) :
    Calls Tryz.prog 66 #[.agg #[.int .u16 a, .int .u16 l]] w fun e w' => e = .returned (.int .i64 ((l + 1 : Nat) : Int)) ∧ Mild w w' := by
  go_enter Tryz.func66, Tryz.ntmps66
  go_wp2
  go_ret
  exact ⟨rfl, (Kept.refl _ _).alloc _⟩

set_option maxRecDepth 100000 in
set_option maxHeartbeats 1000000 in
theorem rcCardV_any (q g m c : Nat) (rs : List (Nat × Nat)) (w : World) (h : w.cell? ⟨q, 0, none⟩ = some (.slice (some ⟨g, 0, none⟩) m c)) (hl : rs.length = m) (hb : ∀ r ∈ rs, r.2 < 65536)
    (hc : ∀ (i : Nat) (r : Nat × Nat), rs[i]? = some r → w.cell? ⟨g, i * 2, none⟩ = some (.int .u16 (r.1 : Int)) ∧ w.cell? ⟨g, i * 2 + 1, none⟩ = some (.int .u16 (r.2 : Int))) (hn : ivc rs ≤ 100000000) (hm : m ≤ 100000000) :
    Calls Tryz.prog 58 #[.pointer (some ⟨q, 0, none⟩)] w fun e w' => e = .returned (.int .i64 (ivc rs : Nat)) ∧ Mild w w' := by
  have Hb := Lib.hid hb
  have Hc := Lib.hid hc
  have Hl := Lib.hid hl
  have Hle := Lib.hid (ivc_le rs)
  clear hb hc hl
  go_enter Tryz.func58, Tryz.ntmps58
  go_wp2
  go_loopw [11, 3] (fun i n wr => ∃ k : Nat, i = .int .i64 k ∧ n = .int .i64 (ivc (rs.take k) : Nat) ∧ k ≤ m ∧ Hid (Mild w wr)) (fun i _ _ => m - (intOf i).toNat)
  case atStart => exact ⟨0, rfl, rfl, Nat.zero_le _, Lib.hid (Kept.refl _ _)⟩
  case round =>
    obtain ⟨k, rfl, rfl, hk, Hm⟩ := hrel
    by_cases hlt : k < m
    · obtain ⟨r, hx⟩ : ∃ r, rs[k]? = some r := ⟨_, List.getElem?_eq_getElem (by rw [Hl.out]; exact hlt)⟩
      have hrr := Hb.out r (List.mem_of_getElem? hx)
      have ca := Hm.out.cell2 id (Hc.out k r hx).1
      have cb := Hm.out.cell2 id (Hc.out k r hx).2
      have hsu := ivc_take hx
      have hb2 := Hle.out (k + 1)
      have i1 : (k : Int) < (m : Int) := by omega
      have C := Lib.hid (fun (W : World) => rlenC_any r.1 r.2 W hrr)
      clear hx
      go_wp2_with (first
        | (go_at_call 66; refine (C.out _).mono ?_; rintro ed w2 ⟨rfl, k2⟩))
      go_roundw
      case rel => exact ⟨k + 1, by go_num, by rw [hsu] at hb2 ⊢; go_num, by omega, Lib.hid (((Hm.out.alloc _).trans k2))⟩
      case measure => simp only [intOf]; omega
    · obtain rfl : k = m := by omega
      go_wp2
      go_ret
      have e : rs.take k = rs := by rw [← Hl.out, List.take_length]
      rw [e]
      exact ⟨rfl, Hm.out⟩

theorem ahead_acC (a : Addr) (w : World) : (nilAhead 318 82 (.pointer (some a)) "loop.example/pub-g03248/pub/roaring.getCardinality").run Tryz.prog w = .ok (some false) w := by kernel_rfl
theorem method_acC (a : Addr) (w : World) : (method 318 82 (.pointer (some a)) "loop.example/pub-g03248/pub/roaring.getCardinality").run Tryz.prog w = .ok (74, .pointer (some a)) w := by kernel_rfl
theorem ahead_rcC (a : Addr) (w : World) : (nilAhead 318 90 (.pointer (some a)) "loop.example/pub-g03248/pub/roaring.getCardinality").run Tryz.prog w = .ok (some false) w := by kernel_rfl
theorem method_rcC (a : Addr) (w : World) : (method 318 90 (.pointer (some a)) "loop.example/pub-g03248/pub/roaring.getCardinality").run Tryz.prog w = .ok (58, .pointer (some a)) w := by kernel_rfl
theorem ahead_bcC (a : Addr) (w : World) : (nilAhead 318 99 (.pointer (some a)) "loop.example/pub-g03248/pub/roaring.getCardinality").run Tryz.prog w = .ok (some false) w := by kernel_rfl
theorem method_bcC (a : Addr) (w : World) : (method 318 99 (.pointer (some a)) "loop.example/pub-g03248/pub/roaring.getCardinality").run Tryz.prog w = .ok (165, .pointer (some a)) w := by kernel_rfl

end Go.Proofs

namespace Go.Proofs
open Go.RowKit Go.Roar
theorem call_ac_card (v : Value) (w : World) : (callFunc 74 #[v]).run Tryz.prog w = .ok (.enter 74 #[v]) w := by kernel_rfl
theorem call_bc_card (v : Value) (w : World) : (callFunc 165 #[v]).run Tryz.prog w = .ok (.enter 165 #[v]) w := by kernel_rfl
theorem call_rc_card (v : Value) (w : World) : (callFunc 58 #[v]).run Tryz.prog w = .ok (.enter 58 #[v]) w := by kernel_rfl
/-- The method getCardinality of a container. -/
theorem kc_card {c : Value} {l : List Nat} {k : Nat} {L : List HA} (h : KC c l k L) : ∃ (tt : TypeId) (a : Addr) (fn : Nat), c = .iface tt (.pointer (some a)) ∧
    (∀ w, (nilAhead 318 tt (.pointer (some a)) "loop.example/pub-g03248/pub/roaring.getCardinality").run Tryz.prog w = .ok (some false) w) ∧
    (∀ w, (method 318 tt (.pointer (some a)) "loop.example/pub-g03248/pub/roaring.getCardinality").run Tryz.prog w = .ok (fn, .pointer (some a)) w) ∧
    (∀ (w : World), (callFunc fn #[.pointer (some a)]).run Tryz.prog w = .ok (.enter fn #[.pointer (some a)]) w) ∧
    ∀ (w : World), Parts w L → Calls Tryz.prog fn #[.pointer (some a)] w fun ed w' => ed = .returned (.int .i64 (l.length : Int)) ∧ Mild w w' := by
  cases h with
  | arr p v _ hs hb h0 hn => exact ⟨_, _, _, rfl, fun w => ahead_acC _ w, fun w => method_acC _ w, fun w => call_ac_card _ w, fun w hp => by
      have ho : Own w 1 57 v l.length (u16s l) := hp.all (O 1 57 v l.length (u16s l)) (by simp [AC])
      have hB : Blk w p 106 [v] := hp.all (B p 106 [v]) (by simp [AC])
      obtain ⟨g, c, rfl, _, _⟩ := Own.shape ho (List.length_pos_iff.2 h0)
      exact acCardC_any p l.length c _ w (hB.cell 0)⟩
  | bmp p g c ws _ hl hb h0 hx => exact ⟨_, _, _, rfl, fun w => ahead_bcC _ w, fun w => method_bcC _ w, fun w => call_bc_card _ w, fun w hp => by
      have hB : Blk w p 122 [.int .i64 (l.length : Int), .slice (some ⟨g, 0, none⟩) 1024 c] := hp.all (B p 122 [.int .i64 (l.length : Int), .slice (some ⟨g, 0, none⟩) 1024 c]) (by simp [BC])
      exact bcCardC_any p l.length w (hB.cell 0)⟩
  | run p v rs _ hr h0 hx => exact ⟨_, _, _, rfl, fun w => ahead_rcC _ w, fun w => method_rcC _ w, fun w => call_rc_card _ w, fun w hp => by
      rw [← hx, rgNums_length]
      exact rcCard_any p v rs w hr h0 hp⟩
end Go.Proofs

namespace Go.Proofs
open Go.RowKit Go.Roar
theorem ahead_ac_rem (a : Addr) (w : World) : (nilAhead 318 82 (.pointer (some a)) "loop.example/pub-g03248/pub/roaring.iremoveReturnMinimized").run Tryz.prog w = .ok (some false) w := by kernel_rfl
theorem method_ac_rem (a : Addr) (w : World) : (method 318 82 (.pointer (some a)) "loop.example/pub-g03248/pub/roaring.iremoveReturnMinimized").run Tryz.prog w = .ok (127, .pointer (some a)) w := by kernel_rfl
theorem call_ac_rem (v : Value) (s : Int) (w : World) : (callFunc 127 #[v, .int .u16 s]).run Tryz.prog w = .ok (.enter 127 #[v, .int .u16 s]) w := by kernel_rfl
theorem ahead_bc_rem (a : Addr) (w : World) : (nilAhead 318 99 (.pointer (some a)) "loop.example/pub-g03248/pub/roaring.iremoveReturnMinimized").run Tryz.prog w = .ok (some false) w := by kernel_rfl
theorem method_bc_rem (a : Addr) (w : World) : (method 318 99 (.pointer (some a)) "loop.example/pub-g03248/pub/roaring.iremoveReturnMinimized").run Tryz.prog w = .ok (276, .pointer (some a)) w := by kernel_rfl
theorem call_bc_rem (v : Value) (s : Int) (w : World) : (callFunc 276 #[v, .int .u16 s]).run Tryz.prog w = .ok (.enter 276 #[v, .int .u16 s]) w := by kernel_rfl
theorem ahead_rc_rem (a : Addr) (w : World) : (nilAhead 318 90 (.pointer (some a)) "loop.example/pub-g03248/pub/roaring.iremoveReturnMinimized").run Tryz.prog w = .ok (some false) w := by kernel_rfl
theorem method_rc_rem (a : Addr) (w : World) : (method 318 90 (.pointer (some a)) "loop.example/pub-g03248/pub/roaring.iremoveReturnMinimized").run Tryz.prog w = .ok (198, .pointer (some a)) w := by kernel_rfl
theorem call_rc_rem (v : Value) (s : Int) (w : World) : (callFunc 198 #[v, .int .u16 s]).run Tryz.prog w = .ok (.enter 198 #[v, .int .u16 s]) w := by kernel_rfl
/-- The method iremoveReturnMinimized of a container. -/
theorem kc_rem {c : Value} {l : List Nat} {k : Nat} {L : List HA} (h : KC c l k L) (hfew : (runsOf l).length ≤ 900) : ∃ (tt : TypeId) (a : Addr) (fn : Nat), c = .iface tt (.pointer (some a)) ∧
    (∀ w, (nilAhead 318 tt (.pointer (some a)) "loop.example/pub-g03248/pub/roaring.iremoveReturnMinimized").run Tryz.prog w = .ok (some false) w) ∧
    (∀ w, (method 318 tt (.pointer (some a)) "loop.example/pub-g03248/pub/roaring.iremoveReturnMinimized").run Tryz.prog w = .ok (fn, .pointer (some a)) w) ∧
    (∀ (s : Int) (w : World), (callFunc fn #[.pointer (some a), .int .u16 s]).run Tryz.prog w = .ok (.enter fn #[.pointer (some a), .int .u16 s]) w) ∧
    ∀ (x : Nat) (w : World), x < 65536 → Parts w L → Calls Tryz.prog fn #[.pointer (some a), .int .u16 (x : Int)] w fun ed w' => RemPost l x (foot L) w ed w' := by
  cases h with
  | arr p v _ hs hb h0 hn => exact ⟨_, _, _, rfl, fun w => ahead_ac_rem _ w, fun w => method_ac_rem _ w, fun s w => call_ac_rem _ s w, fun x w hx hp => acRem_any p v l x w hs hb hn hx hp⟩
  | bmp p g c ws _ hl hb h0 hx => exact ⟨_, _, _, rfl, fun w => ahead_bc_rem _ w, fun w => method_bc_rem _ w, fun s w => call_bc_rem _ s w, fun x w hxx hp => bcRem_any p g c ws l x w hl hb h0 hx hxx hp⟩
  | run p v rs _ hr h0 hx => exact ⟨_, _, _, rfl, fun w => ahead_rc_rem _ w, fun w => method_rc_rem _ w, fun s w => call_rc_rem _ s w, fun x w hxx hp => by
      rw [← hx]; exact rcRem_any p v rs x w hr h0 (by rw [← hx, runsOf_back hr] at hfew; exact hfew) hxx hp⟩
theorem acEmpty_any (q m c : Nat) (G : Option Addr) (w : World) (h : w.cell? ⟨q, 0, none⟩ = some (.slice G m c)) :
    Calls Tryz.prog 128 #[.pointer (some ⟨q, 0, none⟩)] w fun e w' => e = .returned (.bool ((m : Int) == 0)) ∧ w = w' := by
  go_enter Tryz.func128, Tryz.ntmps128
  go_wp2
  go_ret
  exact ⟨rfl, rfl⟩
theorem rcEmpty_any (q m c : Nat) (G : Option Addr) (w : World) (h : w.cell? ⟨q, 0, none⟩ = some (.slice G m c)) :
    Calls Tryz.prog 199 #[.pointer (some ⟨q, 0, none⟩)] w fun e w' => e = .returned (.bool ((m : Int) == 0)) ∧ w = w' := by
  go_enter Tryz.func199, Tryz.ntmps199
  go_wp2
  go_ret
  exact ⟨rfl, rfl⟩
theorem bcEmpty_any (q n : Nat) (w : World) (h : w.cell? ⟨q, 0, none⟩ = some (.int .i64 (n : Int))) :
    Calls Tryz.prog 277 #[.pointer (some ⟨q, 0, none⟩)] w fun e w' => e = .returned (.bool ((n : Int) == 0)) ∧ w = w' := by
  go_enter Tryz.func277, Tryz.ntmps277
  go_wp2
  go_ret
  exact ⟨rfl, rfl⟩
theorem ahead_ac_emp (a : Addr) (w : World) : (nilAhead 318 82 (.pointer (some a)) "loop.example/pub-g03248/pub/roaring.isEmpty").run Tryz.prog w = .ok (some false) w := by kernel_rfl
theorem method_ac_emp (a : Addr) (w : World) : (method 318 82 (.pointer (some a)) "loop.example/pub-g03248/pub/roaring.isEmpty").run Tryz.prog w = .ok (128, .pointer (some a)) w := by kernel_rfl
theorem call_ac_emp (v : Value) (w : World) : (callFunc 128 #[v]).run Tryz.prog w = .ok (.enter 128 #[v]) w := by kernel_rfl
theorem ahead_bc_emp (a : Addr) (w : World) : (nilAhead 318 99 (.pointer (some a)) "loop.example/pub-g03248/pub/roaring.isEmpty").run Tryz.prog w = .ok (some false) w := by kernel_rfl
theorem method_bc_emp (a : Addr) (w : World) : (method 318 99 (.pointer (some a)) "loop.example/pub-g03248/pub/roaring.isEmpty").run Tryz.prog w = .ok (277, .pointer (some a)) w := by kernel_rfl
theorem call_bc_emp (v : Value) (w : World) : (callFunc 277 #[v]).run Tryz.prog w = .ok (.enter 277 #[v]) w := by kernel_rfl
theorem ahead_rc_emp (a : Addr) (w : World) : (nilAhead 318 90 (.pointer (some a)) "loop.example/pub-g03248/pub/roaring.isEmpty").run Tryz.prog w = .ok (some false) w := by kernel_rfl
theorem method_rc_emp (a : Addr) (w : World) : (method 318 90 (.pointer (some a)) "loop.example/pub-g03248/pub/roaring.isEmpty").run Tryz.prog w = .ok (199, .pointer (some a)) w := by kernel_rfl
theorem call_rc_emp (v : Value) (w : World) : (callFunc 199 #[v]).run Tryz.prog w = .ok (.enter 199 #[v]) w := by kernel_rfl
theorem empty_no {n : Nat} (h : 0 < n) : ((n : Int) == 0) = false := by rw [beq_eq_false_iff_ne]; omega
/-- The method isEmpty of a container that has numbers, or of an array without any. -/
theorem ke_empty {c : Value} {l : List Nat} {L : List HA} (h : KE c l L) : ∃ (tt : TypeId) (a : Addr) (fn : Nat), c = .iface tt (.pointer (some a)) ∧
    (∀ w, (nilAhead 318 tt (.pointer (some a)) "loop.example/pub-g03248/pub/roaring.isEmpty").run Tryz.prog w = .ok (some false) w) ∧
    (∀ w, (method 318 tt (.pointer (some a)) "loop.example/pub-g03248/pub/roaring.isEmpty").run Tryz.prog w = .ok (fn, .pointer (some a)) w) ∧
    (∀ (w : World), (callFunc fn #[.pointer (some a)]).run Tryz.prog w = .ok (.enter fn #[.pointer (some a)]) w) ∧
    ∀ (w : World), Parts w L → Calls Tryz.prog fn #[.pointer (some a)] w fun ed w' => ed = .returned (.bool (decide (l = []))) ∧ w = w' := by
  rcases h with ⟨k, h⟩ | ⟨rfl, p, v, rfl, rfl⟩
  · have hne := (KC.plain h).2.2
    have hd : decide (l = []) = false := decide_eq_false hne
    rw [hd]
    cases h with
    | arr p v _ hs hb h0 hn => exact ⟨_, _, _, rfl, fun w => ahead_ac_emp _ w, fun w => method_ac_emp _ w, fun w => call_ac_emp _ w, fun w hp => by
        have ho : Own w 1 57 v l.length (u16s l) := hp.all (O 1 57 v l.length (u16s l)) (by simp [AC])
        have hB : Blk w p 106 [v] := hp.all (B p 106 [v]) (by simp [AC])
        obtain ⟨g, c, rfl, _, _⟩ := Own.shape ho (List.length_pos_iff.2 h0)
        have := acEmpty_any p l.length c _ w (hB.cell 0)
        rw [empty_no (List.length_pos_iff.2 h0)] at this
        exact this⟩
    | bmp p g c ws _ hl hb h0 hx => exact ⟨_, _, _, rfl, fun w => ahead_bc_emp _ w, fun w => method_bc_emp _ w, fun w => call_bc_emp _ w, fun w hp => by
        have hB : Blk w p 122 [.int .i64 (l.length : Int), .slice (some ⟨g, 0, none⟩) 1024 c] := hp.all (B p 122 [.int .i64 (l.length : Int), .slice (some ⟨g, 0, none⟩) 1024 c]) (by simp [BC])
        have := bcEmpty_any p l.length w (hB.cell 0)
        rw [empty_no (by omega)] at this
        exact this⟩
    | run p v rs _ hr h0 hx => exact ⟨_, _, _, rfl, fun w => ahead_rc_emp _ w, fun w => method_rc_emp _ w, fun w => call_rc_emp _ w, fun w hp => by
        have hB : Blk w p 112 [v] := hp.all (B p 112 [v]) (by simp [RC])
        obtain ⟨g, c, rfl, _, _⟩ := RCn.of hp h0
        have := rcEmpty_any p rs.length c _ w (hB.cell 0)
        rw [empty_no (List.length_pos_iff.2 h0)] at this
        exact this⟩
  · exact ⟨_, _, _, rfl, fun w => ahead_ac_emp _ w, fun w => method_ac_emp _ w, fun w => call_ac_emp _ w, fun w hp => by
      have ho : Own w 1 57 v 0 [] := hp.all (O 1 57 v 0 []) (by simp [AC, u16s])
      have hB : Blk w p 106 [v] := hp.all (B p 106 [v]) (by simp [AC])
      obtain ⟨G, c, rfl, _⟩ := Own.sliceOf ho
      exact acEmpty_any p 0 c _ w (hB.cell 0)⟩
end Go.Proofs
