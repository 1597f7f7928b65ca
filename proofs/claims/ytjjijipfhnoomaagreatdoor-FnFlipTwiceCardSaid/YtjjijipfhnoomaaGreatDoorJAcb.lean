/-
  arrayContainer.iaddRange where the numbers become too many: it is turned to bits.
  runContainer16.iaddRange: the runs melted with one range.
  A range added to a container of any kind.
-/
import Derived.Test.YtjjijipfhnoomaaGreatDoorJSr
import Derived.Test.YtjjijipfhnoomaaGreatDoorKAc
import Derived.Test.YtjjijipfhnoomaaGreatDoorKUni
import Derived.Test.YtjjijipfhnoomaaGreatDoorJAcNil
namespace Go.Proofs
open Go.RowKit Go.Roar

theorem bits_nums {v l : List Nat} (hs : Rising l) (hb : ∀ x ∈ l, x < 65536) (h : ∀ x, bitOf v x = decide (x ∈ l)) : restFrom (bitOf v) 0 = l :=
  sorted_ext (rest_sorted _) hs (fun x => by
    rw [rest_mem, h]
    exact ⟨fun h => by simpa using h.2, fun h => ⟨hb x h, by simpa using h⟩⟩)

set_option maxRecDepth 100000 in
set_option maxHeartbeats 8000000 in
theorem acAddBig_any (p g c : Nat) (l : List Nat) (s e : Nat) (w : World) (hs : Rising l) (hb : ∀ y ∈ l, y < 65536) (hl : l.length ≤ 4096) (hse : s < e) (he : e ≤ 65536) (hcard : 4096 < lb l s + (l.length - lb l e) + (e - s))
    (h : Parts w (AC p (.slice (some ⟨g, 0, none⟩) l.length c) l)) :
    Calls Tryz.prog 67 #[.pointer (some ⟨p, 0, none⟩), .int .i64 s, .int .i64 e] w fun ed w' => ∃ q g' ws, ed = .returned (.iface 99 (.pointer (some ⟨q, 0, none⟩))) ∧
      ws.length = 1024 ∧ (∀ x ∈ ws, x < 18446744073709551616) ∧ restFrom (bitOf ws) 0 = addS l s e ∧ SS w [] w' (BC q (addS l s e).length (.slice (some ⟨g', 0, none⟩) 1024 1024) ws) := by
  have k0 : w.cell? ⟨p, 0, none⟩ = some (.slice (some ⟨g, 0, none⟩) l.length c) := (Blk.cell (h.all (B p 106 [.slice (some ⟨g, 0, none⟩) l.length c]) (by simp [AC])) 0)
  have hB : Blk w p 106 [.slice (some ⟨g, 0, none⟩) l.length c] := h.all (B p 106 [.slice (some ⟨g, 0, none⟩) l.length c]) (by simp [AC])
  have ho : Own w 1 57 (.slice (some ⟨g, 0, none⟩) l.length c) l.length (u16s l) := h.all (O 1 57 (.slice (some ⟨g, 0, none⟩) l.length c) l.length (u16s l)) (by simp [AC])
  have C1 := Lib.hid (bs_own _ l s w hs hb (by omega) (by omega) ho)
  have C2 := bs_own _ l (e - 1) w hs hb (by omega) (by omega) ho
  rw [show ((e - 1 : Nat) : Int) = (e : Int) - 1 by omega] at C2
  have C2 := Lib.hid C2
  have C3 := Lib.hid (acLen_any p _ l w k0 ho)
  have C4 := Lib.hid (toBitmap_any p g l.length c l w hB ho hb (by omega))
  have hsm := lb_mono l (show s ≤ e by omega)
  have hle := lb_le l e
  have hR1 : bsOf l s = lb l s ∨ bsOf l s = - ((lb l s : Int) + 1) := by unfold bsOf; split <;> simp
  have hR2 : (bsOf l (e - 1) = (lb l e : Int) - 1 ∧ 0 < lb l e) ∨ bsOf l (e - 1) = - ((lb l e : Int) + 1) := by
    have := lb_succ hs (e - 1)
    rw [show e - 1 + 1 = e by omega] at this
    by_cases hh : l[lb l (e - 1)]? = some (e - 1)
    · rw [this.1 hh]; unfold bsOf; rw [if_pos hh]; left; omega
    · rw [this.2 hh]; unfold bsOf; rw [if_neg hh]; right; rfl
  have Hs := Lib.hid hs
  have Hb := Lib.hid hb
  clear hs hb ho hB h
  generalize hn : l.length = n at *
  generalize hi : lb l s = i at *
  generalize hj : lb l e = j at *
  generalize hr1 : bsOf l s = r1 at *
  generalize hr2 : bsOf l (e - 1) = r2 at *
  have Hn := Lib.hid hn
  have HR1 := Lib.hid hR1
  have HR2 := Lib.hid hR2
  clear hn hi hj hr1 hr2 hR1 hR2
  go_enter Tryz.func67, Tryz.ntmps67
  go_upto_if 27 with (go_at_call 52; refine C1.out.mono ?_; rintro ed w' ⟨rfl, rfl⟩)
  go_cut [7] (fun s7 wx => s7 = .int .i64 (i : Int) ∧ w = wx)
  case first =>
    rcases HR1.out with rfl | rfl
    all_goals
      go_wp2
      go_meet
      case rel => exact ⟨int_eq (by omega), rfl⟩
  case rest =>
    obtain ⟨rfl, rfl⟩ := hcut
    go_upto_if 40 with (go_at_call 52; refine C2.out.mono ?_; rintro ed w' ⟨rfl, rfl⟩)
    go_cut [8] (fun s8 wx => s8 = .int .i64 (j : Int) ∧ w = wx)
    case first =>
      rcases HR2.out with ⟨rfl, hr0⟩ | rfl
      all_goals
        go_wp2
        go_meet
        case rel => exact ⟨int_eq (by omega), rfl⟩
    case rest =>
      obtain ⟨rfl, rfl⟩ := hcut
      have i9 : decide ((4096 : Int) < (i : Int) + ((n : Int) - j) + ((e : Int) - s)) = true := by simp; omega
      go_wp2_with (first
        | (go_at_call 74; refine C3.out.mono ?_; rintro ed w' ⟨rfl, rfl⟩)
        | (go_at_call 53; refine C4.out.mono ?_; rintro ed w1 ⟨q, g', v, rfl, a1, a2, a3, a4, a5, a6, a7⟩; have A := Lib.hid (And.intro a3 (And.intro a4 (And.intro a5 (And.intro a6 a7)))); have A2 := Lib.hid a2; have hon : onesW v = n := (by rw [← card_words a2.1, bits_nums Hs.out Hb.out a3]; exact Hn.out); rw [← hon] at a1; have AD := Lib.hid (bcAdd_any q g' 1024 v s e w1 a1 a2 a7 hse he); have Hon := Lib.hid hon; clear a1 a2 a3 a4 a5 a6 a7 hon)
        | (go_at_call 75; refine AD.out.mono ?_; rintro ed w2 ⟨rfl, v2, b1, b2, b3, b4⟩)
        | fail)
      go_ret
      obtain ⟨a3, a4, a5, a6, a7⟩ := A.out
      have hrn := filled_nums b3 (Nat.le_of_lt hse) he
      rw [bits_nums Hs.out Hb.out a3] at hrn
      have hln : onesW v2 = (addS l s e).length := by rw [← hrn, card_words b2.1]
      rw [hln] at b1
      refine ⟨q, g', v2, rfl, b2.1, b2.2.1, hrn, ⟨⟨fun A hA => ?_, by simp [BC, B, O]; exact a7⟩, fun b hb => .inr ?_, Kept.then (S' := fun k => k = g' ∨ k = q) (a4.mono (fun _ _ hk => absurd hk id)) b4 (fun k hk hq => by rcases hq with rfl | rfl <;> omega)⟩⟩
      · simp only [BC, List.mem_cons, List.not_mem_nil, or_false] at hA
        rcases hA with rfl | rfl
        · exact b1
        · exact b2.2.2
      · simp only [BC, B, O, foot_cons, foot_nil, List.append_nil, List.cons_append, List.nil_append, List.mem_cons, blkOf_some, List.not_mem_nil, or_false] at hb
        rcases hb with rfl | rfl <;> omega
end Go.Proofs

namespace Go.Roar
open Go.RowKit Go.Proofs
theorem RCV.of {w : World} {p : Nat} {v : Value} {rs : List (Nat × Nat)} (h : Parts w (RC p v rs)) (h0 : rs ≠ []) : RCV w p rs := by
  have ho : Own w 2 114 v rs.length (ivs rs) := h.all (O 2 114 v rs.length (ivs rs)) (by simp [RC])
  have hB : Blk w p 112 [v] := h.all (B p 112 [v]) (by simp [RC])
  obtain ⟨g, c, rfl, h1, _⟩ := Own.shape ho (List.length_pos_iff.2 h0)
  exact ⟨g, c, h1, hB.cell 0, fun i r hr => ⟨(Own.cellAt ho (ivs_at hr).1).1, (Own.cellAt ho (ivs_at hr).2).1⟩⟩
end Go.Roar
namespace Go.Proofs
open Go.RowKit Go.Roar

theorem take_any (a : Option Addr) (n c : Nat) (w : World) :
    Calls Tryz.prog 224 #[.slice a n c] w fun ed w' => ed = .returned (.pointer (some ⟨w.heap.size, 0, none⟩)) ∧ w' = w.alloc (.cells #[.slice a n c] 112) := by
  go_enter Tryz.func224, Tryz.ntmps224
  go_wp2
  go_ret
  exact ⟨rfl, rfl⟩

set_option maxRecDepth 100000 in
set_option maxHeartbeats 2000000 in
theorem rcAdd_any (p : Nat) (v : Value) (rs : List (Nat × Nat)) (s e : Nat) (w : World) (hr : RgOK 65536 rs) (h0 : rs ≠ []) (hse : s < e) (he : e ≤ 65536) (h : Parts w (RC p v rs)) :
    Calls Tryz.prog 189 #[.pointer (some ⟨p, 0, none⟩), .int .i64 (s : Int), .int .i64 (e : Int)] w fun ed w' => ed = .returned (.iface 90 (.pointer (some ⟨p, 0, none⟩))) ∧
      ∃ v' m, UnionR rs s (e - 1) m ∧ SS w (foot (RC p v rs)) w' (RC p v' m) := by
  have hlen := rg_length (n := 65536) rs 0 hr (by simp) (by omega)
  have S0 := SS.init h
  generalize hF : foot (RC p v rs) = F at *
  have hRV := RCV.of h h0
  have S1 := S0.alloc (.cells #[.int .u16 (s : Int), .int .u16 ((e : Int) - 1 - s)] 114)
  have S2 := S1.alloc (.cells #[.slice (some ⟨w.heap.size, 0, none⟩) 1 1] 112)
  have hb1 := (Blk.new w 114 [.int .u16 (s : Int), .int .u16 ((e : Int) - 1 - s)]).alloc (.cells #[.slice (some ⟨w.heap.size, 0, none⟩) 1 1] 112)
  have hb2 := Blk.new (w.alloc (.cells #[.int .u16 (s : Int), .int .u16 ((e : Int) - 1 - s)] 114)) 112 [.slice (some ⟨w.heap.size, 0, none⟩) 1 1]
  have hQ : RCV ((w.alloc (.cells #[.int .u16 (s : Int), .int .u16 ((e : Int) - 1 - s)] 114)).alloc (.cells #[.slice (some ⟨w.heap.size, 0, none⟩) 1 1] 112)) (w.heap.size + 1) [(s, e - 1)] := by
    refine ⟨w.heap.size, 1, by simp, ?_, fun i r hi => ?_⟩
    · have := hb2.cell 0
      rw [World.size_alloc] at this
      exact this
    · rcases i with _ | i
      · simp at hi; subst hi
        exact ⟨hb1.cell 0, (hb1.cell 1).trans (by simp; omega)⟩
      · simp at hi
  have hR2 := hRV.mild (((Kept.refl _ _).alloc (.cells #[.int .u16 (s : Int), .int .u16 ((e : Int) - 1 - s)] 114)).alloc (.cells #[.slice (some ⟨w.heap.size, 0, none⟩) 1 1] 112))
  have U := Lib.hid (union_any p (w.heap.size + 1) rs s (e - 1) _ hR2 hQ hr (List.length_pos_iff.2 h0) (by omega) (by omega) (by omega))
  have HS2 := Lib.hid S2
  clear S0 S1 S2 hb1 hb2 hQ hR2 hRV h hF hr
  have q1 : IntKind.u16.wrap (s : Int) = (s : Int) := IntWalk.u16_in _ (by omega)
  have q2 : IntKind.u16.wrap ((e : Int) - 1 - s) = (e : Int) - 1 - s := IntWalk.u16_in _ (by omega)
  have i1 : ¬ (e : Int) < (s : Int) := by omega
  have i2 : ((s : Int) == (e : Int)) = false := by rw [beq_eq_false_iff_ne]; omega
  have i3 : ¬ (s : Int) = (e : Int) := by omega
  go_enter Tryz.func189, Tryz.ntmps189
  go_wp2_with (first
    | (go_at_call 224; (with_reducible refine (take_any _ _ _ _).mono ?_); rintro ed w1 ⟨rfl, rfl⟩; simp only [World.size_alloc])
    | (go_at_call 225; (with_reducible refine U.out.mono ?_); rintro ed w2 ⟨z, v2, m, rfl, hU, hS⟩; have HU := Lib.hid hU; have S3 := Lib.hid (HS2.out.join hS); obtain ⟨g2, c2, rfl, _, _⟩ := Own.shape (S3.out.get (A := O 2 114 v2 m.length (ivs m)) (by simp [RC])) hU.2.2.2; clear hU hS HS2; have f1 := S3.out.cell 0 rfl 0 rfl; have f2 := S3.out.cell 2 rfl 0 rfl; have f3 := S3.out.free 2 rfl 0)
    | fail)
  go_ret
  have S4 := SS.store (L := [B z 112 [.slice (some ⟨g2, 0, none⟩) m.length c2], O 2 114 (.slice (some ⟨g2, 0, none⟩) m.length c2) m.length (ivs m)]) (R := [O 2 114 v rs.length (ivs rs)]) S3.out 0 (.slice (some ⟨g2, 0, none⟩) m.length c2)
  have S5 := SS.right (L := [B z 112 [.slice (some ⟨g2, 0, none⟩) m.length c2]]) (M := [O 2 114 (.slice (some ⟨g2, 0, none⟩) m.length c2) m.length (ivs m), B p 112 [.slice (some ⟨g2, 0, none⟩) m.length c2], O 2 114 v rs.length (ivs rs)]) S4
  have S6 := SS.left (L := RC p (.slice (some ⟨g2, 0, none⟩) m.length c2) m) (M := [O 2 114 v rs.length (ivs rs)]) S5.swap
  exact ⟨rfl, _, m, HU.out, S6⟩
end Go.Proofs

namespace Go.Roar
open Go.RowKit Go.Proofs
/-- What adding a range to a container leads to. -/
def AddPost (k0 : Nat) (l : List Nat) (s e : Nat) (F : List Nat) (w : World) (ed : Ending) (w' : World) : Prop :=
  ∃ t v k L, ed = .returned (.iface t v) ∧ KC (.iface t v) (addS l s e) k L ∧ SS w F w' L ∧ (k = 2 ↔ k0 = 2)
theorem addR_addS {l : List Nat} (h : Rising l) (s e : Nat) : Go.Proofs.addR l s e = addS l s e := by
  unfold Go.Proofs.addR addS
  rw [take_lb h, drop_lb h]
end Go.Roar
namespace Go.Proofs
open Go.RowKit Go.Roar
theorem acKd (p : Nat) (v : Value) (l : List Nat) (s e : Nat) (w : World) (hs : Rising l) (hb : ∀ x ∈ l, x < 65536) (h0 : l ≠ []) (hl : l.length ≤ 4096) (hse : s < e) (he : e ≤ 65536) (h : Parts w (AC p v l)) :
    Calls Tryz.prog 67 #[.pointer (some ⟨p, 0, none⟩), .int .i64 s, .int .i64 e] w fun ed w' => AddPost 0 l s e (foot (AC p v l)) w ed w' := by
  have hln := addS_length hs s e
  have hok := And.intro (addS_sorted hs (Nat.le_of_lt hse)) (addS_lt hb (Nat.le_of_lt hse) he)
  by_cases hc : lb l s + (l.length - lb l e) + (e - s) ≤ 4096
  · refine (acAddRange_any p v l s e w hs hb hl hse he hc h).mono ?_
    rintro ed w' ⟨rfl, v', hS⟩
    rw [addR_addS hs] at hS
    exact ⟨_, _, 0, _, rfl, KC.arr p v' _ hok.1 hok.2 (addS_ne hse) (by omega), hS, Iff.rfl⟩
  · have ho : Own w 1 57 v l.length (u16s l) := h.all (O 1 57 v l.length (u16s l)) (by simp [AC])
    obtain ⟨g, c, rfl, _, _⟩ := Own.shape ho (List.length_pos_iff.2 h0)
    refine (acAddBig_any p g c l s e w hs hb hl hse he (by omega) h).mono ?_
    rintro ed w' ⟨q, g', ws, rfl, h1, h2, h3, hS⟩
    exact ⟨_, _, 1, _, rfl, KC.bmp q g' 1024 ws _ h1 h2 (by omega) h3, hS.wide _, by decide⟩
theorem rcKd (p : Nat) (v : Value) (rs : List (Nat × Nat)) (s e : Nat) (w : World) (hr : RgOK 65536 rs) (h0 : rs ≠ []) (hse : s < e) (he : e ≤ 65536) (h : Parts w (RC p v rs)) :
    Calls Tryz.prog 189 #[.pointer (some ⟨p, 0, none⟩), .int .i64 s, .int .i64 e] w fun ed w' => AddPost 2 (rgNums rs) s e (foot (RC p v rs)) w ed w' := by
  refine (rcAdd_any p v rs s e w hr h0 hse he h).mono ?_
  rintro ed w' ⟨rfl, v', m, hU, hS⟩
  have hx := hU.2.1
  rw [show e - 1 + 1 = e by omega] at hx
  exact ⟨_, _, 2, _, rfl, KC.run p v' m _ hU.1 (List.length_pos_iff.1 hU.2.2.2) hx, hS, Iff.rfl⟩
theorem bcKd (p g c : Nat) (ws l : List Nat) (s e : Nat) (w : World) (hl : ws.length = 1024) (hb : ∀ x ∈ ws, x < 18446744073709551616) (h0 : 4096 < l.length) (hx : restFrom (bitOf ws) 0 = l) (hse : s < e) (he : e ≤ 65536)
    (h : Parts w (BC p l.length (.slice (some ⟨g, 0, none⟩) 1024 c) ws)) :
    Calls Tryz.prog 75 #[.pointer (some ⟨p, 0, none⟩), .int .i64 s, .int .i64 e] w fun ed w' => AddPost 1 l s e (foot (BC p l.length (.slice (some ⟨g, 0, none⟩) 1024 c) ws)) w ed w' := by
  have hB : Blk w p 122 [.int .i64 (l.length : Int), .slice (some ⟨g, 0, none⟩) 1024 c] := h.all (B p 122 [.int .i64 (l.length : Int), .slice (some ⟨g, 0, none⟩) 1024 c]) (by simp [BC])
  have ho : Own w 1 23 (.slice (some ⟨g, 0, none⟩) 1024 c) 1024 (u64s ws) := h.all (O 1 23 (.slice (some ⟨g, 0, none⟩) 1024 c) 1024 (u64s ws)) (by simp [BC])
  have hpg : p ≠ g := by
    have := h.nd
    simp only [BC, B, O, foot_cons, foot_nil, List.append_nil, List.cons_append, List.nil_append, blkOf_some] at this
    simpa using this
  have hon : onesW ws = l.length := by rw [← card_words hl, hx]
  rw [← hon] at hB
  refine (bcAdd_any p g c ws s e w hB ⟨hl, hb, ho⟩ hpg hse he).mono ?_
  rintro ed w' ⟨rfl, ws', b1, b2, b3, b4⟩
  have hrn := filled_nums b3 (Nat.le_of_lt hse) he
  rw [hx] at hrn
  have hln : onesW ws' = (addS l s e).length := by rw [← hrn, card_words b2.1]
  have hsl : Rising l := by rw [← hx]; exact rest_sorted _
  have hmore : l.length ≤ (addS l s e).length := sorted_sub hsl (addS_sorted hsl (Nat.le_of_lt hse)) (fun x hx => (addS_mem (Nat.le_of_lt hse) x).2 (.inl hx))
  rw [hln] at b1
  refine ⟨_, _, 1, _, rfl, KC.bmp p g c ws' _ b2.1 b2.2.1 (by omega) hrn, ⟨⟨fun A hA => ?_, by simp [BC, B, O]; exact hpg⟩, fun b hb => .inl (by simpa [BC, B, O] using hb), b4.mono (fun b _ hb => by simp [BC, B, O]; rcases hb with rfl | rfl <;> simp)⟩, Iff.rfl⟩
  simp only [BC, List.mem_cons, List.not_mem_nil, or_false] at hA
  rcases hA with rfl | rfl
  · exact b1
  · exact b2.2.2

/-! ### The method of a container, by its type -/
theorem ahead_ac_iaddRange (a : Addr) (w : World) : (nilAhead 318 82 (.pointer (some a)) "loop.example/pub-g03248/pub/roaring.iaddRange").run Tryz.prog w = .ok (some false) w := by kernel_rfl
theorem method_ac_iaddRange (a : Addr) (w : World) : (method 318 82 (.pointer (some a)) "loop.example/pub-g03248/pub/roaring.iaddRange").run Tryz.prog w = .ok (67, .pointer (some a)) w := by kernel_rfl
theorem ahead_ac_toEfficientContainer (a : Addr) (w : World) : (nilAhead 318 82 (.pointer (some a)) "loop.example/pub-g03248/pub/roaring.toEfficientContainer").run Tryz.prog w = .ok (some false) w := by kernel_rfl
theorem method_ac_toEfficientContainer (a : Addr) (w : World) : (method 318 82 (.pointer (some a)) "loop.example/pub-g03248/pub/roaring.toEfficientContainer").run Tryz.prog w = .ok (149, .pointer (some a)) w := by kernel_rfl
theorem ahead_bc_iaddRange (a : Addr) (w : World) : (nilAhead 318 99 (.pointer (some a)) "loop.example/pub-g03248/pub/roaring.iaddRange").run Tryz.prog w = .ok (some false) w := by kernel_rfl
theorem method_bc_iaddRange (a : Addr) (w : World) : (method 318 99 (.pointer (some a)) "loop.example/pub-g03248/pub/roaring.iaddRange").run Tryz.prog w = .ok (75, .pointer (some a)) w := by kernel_rfl
theorem ahead_bc_toEfficientContainer (a : Addr) (w : World) : (nilAhead 318 99 (.pointer (some a)) "loop.example/pub-g03248/pub/roaring.toEfficientContainer").run Tryz.prog w = .ok (some false) w := by kernel_rfl
theorem method_bc_toEfficientContainer (a : Addr) (w : World) : (method 318 99 (.pointer (some a)) "loop.example/pub-g03248/pub/roaring.toEfficientContainer").run Tryz.prog w = .ok (298, .pointer (some a)) w := by kernel_rfl
theorem ahead_rc_iaddRange (a : Addr) (w : World) : (nilAhead 318 90 (.pointer (some a)) "loop.example/pub-g03248/pub/roaring.iaddRange").run Tryz.prog w = .ok (some false) w := by kernel_rfl
theorem method_rc_iaddRange (a : Addr) (w : World) : (method 318 90 (.pointer (some a)) "loop.example/pub-g03248/pub/roaring.iaddRange").run Tryz.prog w = .ok (189, .pointer (some a)) w := by kernel_rfl
theorem ahead_rc_toEfficientContainer (a : Addr) (w : World) : (nilAhead 318 90 (.pointer (some a)) "loop.example/pub-g03248/pub/roaring.toEfficientContainer").run Tryz.prog w = .ok (some false) w := by kernel_rfl
theorem method_rc_toEfficientContainer (a : Addr) (w : World) : (method 318 90 (.pointer (some a)) "loop.example/pub-g03248/pub/roaring.toEfficientContainer").run Tryz.prog w = .ok (49, .pointer (some a)) w := by kernel_rfl
theorem call_ac_iaddRange (v : Value) (s e : Int) (w : World) : (callFunc 67 #[v, .int .i64 s, .int .i64 e]).run Tryz.prog w = .ok (.enter 67 #[v, .int .i64 s, .int .i64 e]) w := by kernel_rfl
theorem call_ac_toEff (v : Value) (w : World) : (callFunc 149 #[v]).run Tryz.prog w = .ok (.enter 149 #[v]) w := by kernel_rfl
theorem call_bc_iaddRange (v : Value) (s e : Int) (w : World) : (callFunc 75 #[v, .int .i64 s, .int .i64 e]).run Tryz.prog w = .ok (.enter 75 #[v, .int .i64 s, .int .i64 e]) w := by kernel_rfl
theorem call_bc_toEff (v : Value) (w : World) : (callFunc 298 #[v]).run Tryz.prog w = .ok (.enter 298 #[v]) w := by kernel_rfl
theorem call_rc_iaddRange (v : Value) (s e : Int) (w : World) : (callFunc 189 #[v, .int .i64 s, .int .i64 e]).run Tryz.prog w = .ok (.enter 189 #[v, .int .i64 s, .int .i64 e]) w := by kernel_rfl
theorem call_rc_toEff (v : Value) (w : World) : (callFunc 49 #[v]).run Tryz.prog w = .ok (.enter 49 #[v]) w := by kernel_rfl
end Go.Proofs
