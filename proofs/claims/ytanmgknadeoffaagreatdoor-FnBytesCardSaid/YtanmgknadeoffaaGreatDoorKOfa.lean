/-
  impl.OfBytes: what is told of a set that is read.
-/
import Derived.Test.YtanmgknadeoffaaGreatDoorJRd
import Derived.Test.YtanmgknadeoffaaGreatDoorKTd
import Derived.Test.YtanmgknadeoffaaGreatDoorKCd
namespace Go.Roar
open Go.RowKit Go.Proofs

theorem Con.mono {w : World} {H H' : Nat} {v : Value} {l : List Nat} (h : Con w H v l) (hH : H ≤ H') : Con w H' v l := by
  rcases h with ⟨q, g, m, c, a0, a1, a2, a3⟩ | ⟨q, g, m, c, rs, a0, a1, a2, a3⟩ | ⟨q, g, c, ws, a0, a1, a2, a3⟩
  · exact .inl ⟨q, g, m, c, a0, by omega, by omega, a3⟩
  · exact .inr (.inl ⟨q, g, m, c, rs, a0, by omega, by omega, a3⟩)
  · exact .inr (.inr ⟨q, g, c, ws, a0, by omega, by omega, a3⟩)
theorem Whole.mono {w : World} {H H' p : Nat} {ps : List (Nat × List Nat)} (h : Whole w H p ps) (hH : H ≤ H') : Whole w H' p ps where
  h0 := h.h0
  hp := by have := h.hp; omega
  len := h.len
  tab := h.tab
  tabH := by have := h.tabH; omega
  full := h.full
  part := fun i x hx => by
    obtain ⟨gk, ck, gc, cc, v, a1, a2, a3, a4, a5, a6, a7⟩ := h.part i x hx
    exact ⟨gk, ck, gc, cc, v, a1, a2, by omega, by omega, a5, a6, a7.mono hH⟩

/-- The set at p has been read: its parts are ps, and each container knows how many numbers it has. -/
structure Loaded (w : World) (p : Nat) (ps : List (Nat × List Nat)) : Prop where
  whole : Whole w w.heap.size p ps
  cards : ∃ G c, w.cell? ⟨p, 1, none⟩ = some (.slice G ps.length c) ∧ ∀ (i : Nat) (x : Nat × List Nat), ps[i]? = some x → ∃ gc v, G = some ⟨gc, 0, none⟩ ∧ w.cell? ⟨gc, i, none⟩ = some v ∧ ConC w w.heap.size v x.2.length

/-- The bytes bs are read from a reader as the parts ps. -/
def LoadsA (bs : List Nat) (ps : List (Nat × List Nat)) : Prop :=
  ∀ (S R D C p : Nat) (tp : TypeId) (w : World), StrA w S R D C bs 0 → Blk w p tp [.slice none 0 0, .slice none 0 0, .slice none 0 0, .bool false] → S ≠ R → S ≠ D → R ≠ D → p ≠ S → p ≠ D → p ≠ R → Tab w →
    1 ≠ p → 1 ≠ S → 1 ≠ R → 1 < w.heap.size →
    Calls Tryz.prog 39 #[.pointer (some ⟨p, 0, none⟩), .iface 121 (.pointer (some ⟨S, 0, none⟩)), .slice none 0 0] w fun e w' => e = .returned (.tuple #[.int .i64 (bs.length : Int), .nilIface]) ∧ Loaded w' p ps ∧ Kept (fun k => k = p ∨ k = R ∨ k = S) w w'
theorem RB.own {w : World} {g n c : Nat} {bs : List Nat} (h : Own w 1 5 (.slice (some ⟨g, 0, none⟩) n c) n (u8s bs)) (hb : ∀ b ∈ bs, b < 256) : RB w (some ⟨g, 0, none⟩) n c bs := by
  have hl := h.len
  rw [u8s_length, Nat.mul_one] at hl
  refine ⟨hl, ?_, hb, fun _ => ⟨g, 0, rfl, fun j x hx => ?_⟩⟩
  · rcases h.2 with ⟨h0, _⟩ | ⟨g', k, r, hv, _⟩
    · cases h0
    · simp at hv; omega
  · rw [Nat.zero_add]; exact h.at (u8s_at hx)
theorem nums_length (ps : List (Nat × List Nat)) : (nums ps).length = (ps.map fun x => x.2.length).sum := by
  induction ps with
  | nil => rfl
  | cons x l ih => simp [nums] at *
                   try omega
end Go.Roar
namespace Go.Proofs
open Go.RowKit Go.Roar

theorem loadedCard_any (p : Nat) (ps : List (Nat × List Nat)) (w : World) (h : Loaded w p ps) (hN : (nums ps).length ≤ 1000000) :
    Calls Tryz.prog 30 #[.pointer (some ⟨p, 0, none⟩)] w fun e w' => e = .returned (.int .u64 ((nums ps).length : Nat)) ∧ Mild w w' := by
  obtain ⟨G, c, h1, h2⟩ := h.cards
  rw [nums_length] at hN ⊢
  refine bmCard_any w.heap.size p ps.length c G (ps.map fun x => x.2.length) w h1 (by simp) h.whole.len (by omega) ?_
  intro i x hx
  rw [List.getElem?_map, Option.map_eq_some_iff] at hx
  obtain ⟨y, hy, rfl⟩ := hx
  exact h2 i y hy

set_option maxRecDepth 100000 in
set_option maxHeartbeats 1000000 in
theorem ofBytes_any (g o c : Nat) (bs : List Nat) (ps : List (Nat × List Nat)) (w : World) (h : RB w (some ⟨g, o, none⟩) bs.length c bs) (h0 : 0 < bs.length) (hb : bs.length ≤ 1000000000)
    (hL : LoadsA bs ps) (hT : Tab w) (hTs : 1 < w.heap.size) (hs : (nums ps).Pairwise (· < ·)) (hx : ∀ x ∈ nums ps, x < 4294967296) (hN : (nums ps).length ≤ 400000) :
    Calls Tryz.prog 13 #[.slice (some ⟨g, o, none⟩) bs.length c] w fun e w' => ∃ v, e = .returned (.tuple #[v, .int .i64 (bs.length : Int), .bool true]) ∧
      Own w' 2 48 v ((nums ps).foldl tell []).length (rgCells ((nums ps).foldl tell [])) ∧ Mild w w' ∧ (∀ b ∈ blkOf v, w.heap.size ≤ b) := by
  have H := Lib.hid h
  have HL := Lib.hid hL
  have HT := Lib.hid hT
  have Hs := Lib.hid hs
  have Hx := Lib.hid hx
  clear h hL hT hs hx
  go_enter Tryz.func13, Tryz.ntmps13
  go_wp2_with (first
    | (go_at_call 27; refine (new_any w).mono ?_; rintro ed w1 ⟨rfl, b1, k1⟩; have z1 := k1.size; have zb1 := b1.lt)
    | (go_at_call 19; refine (clone_any g o c bs w1 (H.out.mild k1) h0 hb).mono ?_; rintro ed w2 ⟨D, C, rfl, d2, c2, k2, z2⟩; have zs2 := k2.size; have zd2 : D < w2.heap.size := d2.elim (fun r h => h.lt))
    | (go_at_call 29; refine (newReader_any D C bs w2 d2 c2).mono ?_; rintro ed w3 ⟨rfl, r3, k3⟩; have zs3 := k3.size; have zr3 : w2.heap.size < w3.heap.size := r3.blk.elim (fun r h => h.lt))
    | (go_at_call 28; refine (bmReadFrom_any w.heap.size w2.heap.size D C bs bs.length (fun w' => Loaded w' w.heap.size ps ∧ Kept (fun k => w.heap.size ≤ k) w3 w') w3 r3 (fun w4 s4 k4 => (HL.out w3.heap.size w2.heap.size D C w.heap.size _ w4 s4 (((b1.kept k2 id).kept k3 id).kept k4 id) (by omega) (by omega) (by omega) (by omega) (by omega) (by omega) (fun i hi => k4.cell2 id (k3.cell2 id (k2.cell2 id (k1.cell2 id (HT.out i hi))))) (by omega) (by omega) (by omega) (by have := k4.size; omega)).mono (fun e w' hh => ⟨hh.1, hh.2.1, Kept.then (k4.mono (fun _ _ => False.elim)) hh.2.2 (fun k hk hs => by omega)⟩))).mono ?_; rintro ed w5 ⟨rfl, l5, k5⟩)
    | (go_at_call 30; refine (loadedCard_any w.heap.size ps w5 l5 (by omega)).mono ?_; rintro ed w6 ⟨rfl, k6⟩)
    | (go_at_call 31; refine (told_any w.heap.size ps w6 ((l5.whole.kept k6 (fun _ _ => id)).mono k6.size) Hs.out Hx.out (by omega)).mono ?_; rintro ed w7 ⟨v, rfl, o7, k7, f7⟩))
  go_ret3
  refine ⟨v, rfl, o7, ?_, fun b hb => by have := f7 b hb; have := k6.size; have := k5.size; omega⟩
  have e1 : Mild w w3 := (k1.trans k2).trans k3
  exact ((Kept.then e1 k5 (fun k hk h => by omega)).trans k6).trans k7

end Go.Proofs
