/-
  encoding/binary.LittleEndian's Uint16, Uint32, Uint64.
-/
import Derived.Test.YtbfjpbpohkidoaaGreatDoorProg
import Derived.Test.YtbfjpbpohkidoaaGreatDoorHeap
import Derived.Test.YtbfjpbpohkidoaaGreatDoorQpl
import Derived.Test.YtbfjpbpohkidoaaGreatDoorCells
import Derived.Deep.QuietTactic
import Derived.BigQuiet
import Derived.LoopTactic
import Derived.Outline
import Derived.Lib.EndianBits
namespace Go.Roar
open Go.RowKit
/-- Nothing that was there has been written. -/
abbrev Mild (w w' : World) : Prop := Kept (fun _ => False) w w'
theorem Kept.cell2 {S : Nat → Prop} {w w' : World} (h : Kept S w w') {p : Addr} {v : Value} (hp : ¬ S p.block) (hc : w.cell? p = some v) : w'.cell? p = some v := by
  have hl : p.block < w.heap.size := by
    rcases Nat.lt_or_ge p.block w.heap.size with h | h
    · exact h
    · simp [World.cell?, Array.getElem?_eq_none h] at hc
  rw [h.cell hp hl]; exact hc
theorem leN2 (a b : Nat) : leN [a, b] = a + 256 * b := by simp [leN]
theorem leN4 (a b c d : Nat) : leN [a, b, c, d] = a + 256 * b + 65536 * c + 16777216 * d := by simp [leN]; omega
end Go.Roar
namespace Go.Proofs
open Go.RowKit Go.Roar

theorem or_u16 (b0 b1 : Nat) (h0 : b0 < 256) (h1 : b1 < 256) : bits .or .u16 ((b0 : Int)) ((b1 : Int) * 256) = ((leN [b0, b1] : Nat) : Int) := by
  rw [u16_or8 (b0 : Int) ((b1 : Int) * 256) (by omega) (by omega) (by omega) (by omega) (by omega)]
  simp only [leN]; omega
set_option maxRecDepth 100000 in
set_option maxHeartbeats 1000000 in
theorem le16_any (g o n c b0 b1 : Nat) (w : World) (hn : 2 ≤ n) (c0 : w.cell? ⟨g, o, none⟩ = some (.int .u8 (b0 : Int))) (c1 : w.cell? ⟨g, o + 1, none⟩ = some (.int .u8 (b1 : Int))) (h0 : b0 < 256) (h1 : b1 < 256) :
    Calls Tryz.prog 33 #[.agg #[], .slice (some ⟨g, o, none⟩) n c] w fun e w' => e = .returned (.int .u16 (leN [b0, b1] : Nat)) ∧ Mild w w' := by
  have or := Lib.hid (or_u16 b0 b1 h0 h1)
  have i0 : (0 : Int) < (n : Int) := by omega
  have j0 : 0 < n := by omega
  have i1 : (1 : Int) < (n : Int) := by omega
  have j1 : 1 < n := by omega
  have m0 : Mild w (w.alloc (.cells #[] 95)) := (Kept.refl _ _).alloc _
  replace c0 := m0.cell2 id c0
  replace c1 := m0.cell2 id c1
  go_enter Tryz.func33, Tryz.ntmps33
  go_wp2
  generalize w.alloc (.cells #[] 95) = W at *
  go_quiet (fail)
  go_wp2
  go_ret
  exact ⟨ret_int or.out, m0.drewN _⟩

theorem or_u32 (b0 b1 b2 b3 : Nat) (h0 : b0 < 256) (h1 : b1 < 256) (h2 : b2 < 256) (h3 : b3 < 256) : bits .or .u32 (bits .or .u32 (bits .or .u32 ((b0 : Int)) ((b1 : Int) * 256)) ((b2 : Int) * 65536)) ((b3 : Int) * 16777216) = ((leN [b0, b1, b2, b3] : Nat) : Int) := by
  rw [u32_or8 (b0 : Int) ((b1 : Int) * 256) (by omega) (by omega) (by omega) (by omega) (by omega)]
  rw [u32_or16 ((b0 : Int) + (b1 : Int) * 256) ((b2 : Int) * 65536) (by omega) (by omega) (by omega) (by omega) (by omega)]
  rw [u32_or24 (((b0 : Int) + (b1 : Int) * 256) + (b2 : Int) * 65536) ((b3 : Int) * 16777216) (by omega) (by omega) (by omega) (by omega) (by omega)]
  simp only [leN]; omega
set_option maxRecDepth 100000 in
set_option maxHeartbeats 1000000 in
theorem le32_any (g o n c b0 b1 b2 b3 : Nat) (w : World) (hn : 4 ≤ n) (c0 : w.cell? ⟨g, o, none⟩ = some (.int .u8 (b0 : Int))) (c1 : w.cell? ⟨g, o + 1, none⟩ = some (.int .u8 (b1 : Int))) (c2 : w.cell? ⟨g, o + 2, none⟩ = some (.int .u8 (b2 : Int))) (c3 : w.cell? ⟨g, o + 3, none⟩ = some (.int .u8 (b3 : Int))) (h0 : b0 < 256) (h1 : b1 < 256) (h2 : b2 < 256) (h3 : b3 < 256) :
    Calls Tryz.prog 28 #[.agg #[], .slice (some ⟨g, o, none⟩) n c] w fun e w' => e = .returned (.int .u32 (leN [b0, b1, b2, b3] : Nat)) ∧ Mild w w' := by
  have or := Lib.hid (or_u32 b0 b1 b2 b3 h0 h1 h2 h3)
  have i0 : (0 : Int) < (n : Int) := by omega
  have j0 : 0 < n := by omega
  have i1 : (1 : Int) < (n : Int) := by omega
  have j1 : 1 < n := by omega
  have i2 : (2 : Int) < (n : Int) := by omega
  have j2 : 2 < n := by omega
  have i3 : (3 : Int) < (n : Int) := by omega
  have j3 : 3 < n := by omega
  have m0 : Mild w (w.alloc (.cells #[] 95)) := (Kept.refl _ _).alloc _
  replace c0 := m0.cell2 id c0
  replace c1 := m0.cell2 id c1
  replace c2 := m0.cell2 id c2
  replace c3 := m0.cell2 id c3
  go_enter Tryz.func28, Tryz.ntmps28
  go_wp2
  generalize w.alloc (.cells #[] 95) = W at *
  go_quiet (fail)
  go_wp2
  go_ret
  exact ⟨ret_int or.out, m0.drewN _⟩

theorem or_u64 (b0 b1 b2 b3 b4 b5 b6 b7 : Nat) (h0 : b0 < 256) (h1 : b1 < 256) (h2 : b2 < 256) (h3 : b3 < 256) (h4 : b4 < 256) (h5 : b5 < 256) (h6 : b6 < 256) (h7 : b7 < 256) : bits .or .u64 (bits .or .u64 (bits .or .u64 (bits .or .u64 (bits .or .u64 (bits .or .u64 (bits .or .u64 ((b0 : Int)) ((b1 : Int) * 256)) ((b2 : Int) * 65536)) ((b3 : Int) * 16777216)) ((b4 : Int) * 4294967296)) ((b5 : Int) * 1099511627776)) ((b6 : Int) * 281474976710656)) ((b7 : Int) * 72057594037927936) = ((leN [b0, b1, b2, b3, b4, b5, b6, b7] : Nat) : Int) := by
  rw [u64_or8 (b0 : Int) ((b1 : Int) * 256) (by omega) (by omega) (by omega) (by omega) (by omega)]
  rw [u64_or16 ((b0 : Int) + (b1 : Int) * 256) ((b2 : Int) * 65536) (by omega) (by omega) (by omega) (by omega) (by omega)]
  rw [u64_or24 (((b0 : Int) + (b1 : Int) * 256) + (b2 : Int) * 65536) ((b3 : Int) * 16777216) (by omega) (by omega) (by omega) (by omega) (by omega)]
  rw [u64_or32 ((((b0 : Int) + (b1 : Int) * 256) + (b2 : Int) * 65536) + (b3 : Int) * 16777216) ((b4 : Int) * 4294967296) (by omega) (by omega) (by omega) (by omega) (by omega)]
  rw [u64_or40 (((((b0 : Int) + (b1 : Int) * 256) + (b2 : Int) * 65536) + (b3 : Int) * 16777216) + (b4 : Int) * 4294967296) ((b5 : Int) * 1099511627776) (by omega) (by omega) (by omega) (by omega) (by omega)]
  rw [u64_or48 ((((((b0 : Int) + (b1 : Int) * 256) + (b2 : Int) * 65536) + (b3 : Int) * 16777216) + (b4 : Int) * 4294967296) + (b5 : Int) * 1099511627776) ((b6 : Int) * 281474976710656) (by omega) (by omega) (by omega) (by omega) (by omega)]
  rw [u64_or56 (((((((b0 : Int) + (b1 : Int) * 256) + (b2 : Int) * 65536) + (b3 : Int) * 16777216) + (b4 : Int) * 4294967296) + (b5 : Int) * 1099511627776) + (b6 : Int) * 281474976710656) ((b7 : Int) * 72057594037927936) (by omega) (by omega) (by omega) (by omega) (by omega)]
  simp only [leN]; omega
set_option maxRecDepth 100000 in
set_option maxHeartbeats 1000000 in
theorem le64_any (g o n c b0 b1 b2 b3 b4 b5 b6 b7 : Nat) (w : World) (hn : 8 ≤ n) (c0 : w.cell? ⟨g, o, none⟩ = some (.int .u8 (b0 : Int))) (c1 : w.cell? ⟨g, o + 1, none⟩ = some (.int .u8 (b1 : Int))) (c2 : w.cell? ⟨g, o + 2, none⟩ = some (.int .u8 (b2 : Int))) (c3 : w.cell? ⟨g, o + 3, none⟩ = some (.int .u8 (b3 : Int))) (c4 : w.cell? ⟨g, o + 4, none⟩ = some (.int .u8 (b4 : Int))) (c5 : w.cell? ⟨g, o + 5, none⟩ = some (.int .u8 (b5 : Int))) (c6 : w.cell? ⟨g, o + 6, none⟩ = some (.int .u8 (b6 : Int))) (c7 : w.cell? ⟨g, o + 7, none⟩ = some (.int .u8 (b7 : Int))) (h0 : b0 < 256) (h1 : b1 < 256) (h2 : b2 < 256) (h3 : b3 < 256) (h4 : b4 < 256) (h5 : b5 < 256) (h6 : b6 < 256) (h7 : b7 < 256) :
    Calls Tryz.prog 34 #[.agg #[], .slice (some ⟨g, o, none⟩) n c] w fun e w' => e = .returned (.int .u64 (leN [b0, b1, b2, b3, b4, b5, b6, b7] : Nat)) ∧ Mild w w' := by
  have or := Lib.hid (or_u64 b0 b1 b2 b3 b4 b5 b6 b7 h0 h1 h2 h3 h4 h5 h6 h7)
  have i0 : (0 : Int) < (n : Int) := by omega
  have j0 : 0 < n := by omega
  have i1 : (1 : Int) < (n : Int) := by omega
  have j1 : 1 < n := by omega
  have i2 : (2 : Int) < (n : Int) := by omega
  have j2 : 2 < n := by omega
  have i3 : (3 : Int) < (n : Int) := by omega
  have j3 : 3 < n := by omega
  have i4 : (4 : Int) < (n : Int) := by omega
  have j4 : 4 < n := by omega
  have i5 : (5 : Int) < (n : Int) := by omega
  have j5 : 5 < n := by omega
  have i6 : (6 : Int) < (n : Int) := by omega
  have j6 : 6 < n := by omega
  have i7 : (7 : Int) < (n : Int) := by omega
  have j7 : 7 < n := by omega
  have m0 : Mild w (w.alloc (.cells #[] 95)) := (Kept.refl _ _).alloc _
  replace c0 := m0.cell2 id c0
  replace c1 := m0.cell2 id c1
  replace c2 := m0.cell2 id c2
  replace c3 := m0.cell2 id c3
  replace c4 := m0.cell2 id c4
  replace c5 := m0.cell2 id c5
  replace c6 := m0.cell2 id c6
  replace c7 := m0.cell2 id c7
  go_enter Tryz.func34, Tryz.ntmps34
  go_wp2
  generalize w.alloc (.cells #[] 95) = W at *
  go_quiet (fail)
  go_wp2
  go_ret
  exact ⟨ret_int or.out, m0.drewN _⟩

end Go.Proofs
