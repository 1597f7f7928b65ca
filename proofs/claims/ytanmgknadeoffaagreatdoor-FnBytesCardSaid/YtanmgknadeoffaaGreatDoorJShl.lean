/-
  Contracts of the kit on bytes.Buffer, laid at this program (printed by the kit's lay-plain.mjs).
  bytes.Buffer, written alone: Write, Bytes.
  arrayContainer.writeTo.
-/
import Derived.Test.YtanmgknadeoffaaGreatDoorJFm
import Derived.Test.YtanmgknadeoffaaGreatDoorJLe
import Derived.Shelf.LaysM
import Derived.Ground.NamesProg
import Derived.Test.YtanmgknadeoffaaGreatDoorProg
import Derived.Shelf.Bytes.WriteAny
import Derived.Shelf.Bytes.Bytes
import Derived.Lib.BufferOwn
import Derived.Lib.BufferOld
import Derived.StillTailTactics
namespace Go.Proofs
open Go.Shelf
def Tryz.laysWrite_ren : Go.Shelf.Ren := ⟨fun | 180 => 264 | 251 => 266 | 252 => 267 | 181 => 265 | 184 => 262 | 290 => 268 | 324 => 269 | n => n, fun | 130 => 114 | 37 => 27 | 3 => 3 | 75 => 56 | 0 => 0 | 93 => 112 | 91 => 110 | 131 => 249 | 4 => 4 | 20 => 20 | 5 => 5 | 80 => 200 | 9 => 9 | n => n, fun | 14 => 2 | n => n⟩
theorem Tryz.laysWrite : Go.Proofs.LaysM.n180 Tryz.prog Tryz.laysWrite_ren := {
  mixed := by kernel_rfl
  f180 := Tryz.func264.trans (congrArg some (by kernel_rfl))
  f181 := Tryz.func265.trans (congrArg some (by kernel_rfl))
  f184 := Tryz.func262.trans (congrArg some (by kernel_rfl))
  f251 := Tryz.func266.trans (congrArg some (by kernel_rfl))
  f252 := Tryz.func267.trans (congrArg some (by kernel_rfl))
  f290 := Tryz.func268.trans (congrArg some (by kernel_rfl))
  f324 := Tryz.func269.trans (congrArg some (by kernel_rfl))
  t0 := Tryz.underlying0
  a0 := Tryz.isAgg0
  z0 := Tryz.sizeOf0
  v0 := Tryz.zeroValue0
  t3 := Tryz.underlying3
  a3 := Tryz.isAgg3
  z3 := Tryz.sizeOf3
  v3 := Tryz.zeroValue3
  t4 := Tryz.underlying4
  a4 := Tryz.isAgg4
  z4 := Tryz.sizeOf4
  v4 := Tryz.zeroValue4
  t20 := Tryz.underlying20
  a20 := Tryz.isAgg20
  z20 := Tryz.sizeOf20
  v20 := Tryz.zeroValue20
  t37 := Tryz.underlying27
  a37 := Tryz.isAgg27
  z37 := Tryz.sizeOf27
  v37 := Tryz.zeroValue27
  t75 := Tryz.underlying56
  a75 := Tryz.isAgg56
  z75 := Tryz.sizeOf56
  v75 := Tryz.zeroValue56
  t91 := Tryz.underlying110
  a91 := Tryz.isAgg110
  z91 := Tryz.sizeOf110
  v91 := Tryz.zeroValue110
  t93 := Tryz.underlying112
  a93 := Tryz.isAgg112
  z93 := Tryz.sizeOf112
  v93 := Tryz.zeroValue112
  t130 := Tryz.underlying114
  a130 := Tryz.isAgg114
  z130 := Tryz.sizeOf114
  v130 := Tryz.zeroValue114
  t131 := Tryz.underlying249
  a131 := Tryz.isAgg249
  z131 := Tryz.sizeOf249
  v131 := Tryz.zeroValue249
  g14 := by kernel_rfl
  t5 := Tryz.underlying5
  a5 := Tryz.isAgg5
  z5 := Tryz.sizeOf5
  v5 := Tryz.zeroValue5
  t9 := Tryz.underlying9
  a9 := Tryz.isAgg9
  z9 := Tryz.sizeOf9
  v9 := Tryz.zeroValue9
  t80 := Tryz.underlying200
  a80 := Tryz.isAgg200
  z80 := Tryz.sizeOf200
  v80 := Tryz.zeroValue200
  i0 := by kernel_rfl
  i3 := by kernel_rfl
  i4 := by kernel_rfl
  i5 := by kernel_rfl
  i9 := by kernel_rfl
  i20 := by kernel_rfl
  i37 := by kernel_rfl
  i75 := by kernel_rfl
  i80 := by kernel_rfl
  i91 := by kernel_rfl
  i93 := by kernel_rfl
  i130 := by kernel_rfl
  i131 := by kernel_rfl
  m14 := by kernel_rfl }
def Tryz.laysBytes_ren : Go.Shelf.Ren := ⟨fun | 183 => 50 | n => n, fun | 130 => 114 | 37 => 27 | 0 => 0 | 93 => 112 | 3 => 3 | 5 => 5 | 91 => 110 | n => n, fun | n => n⟩
theorem Tryz.laysBytes : Go.Proofs.LaysM.n183 Tryz.prog Tryz.laysBytes_ren := {
  mixed := by kernel_rfl
  f183 := Tryz.func50.trans (congrArg some (by kernel_rfl))
  t0 := Tryz.underlying0
  a0 := Tryz.isAgg0
  z0 := Tryz.sizeOf0
  v0 := Tryz.zeroValue0
  t3 := Tryz.underlying3
  a3 := Tryz.isAgg3
  z3 := Tryz.sizeOf3
  v3 := Tryz.zeroValue3
  t37 := Tryz.underlying27
  a37 := Tryz.isAgg27
  z37 := Tryz.sizeOf27
  v37 := Tryz.zeroValue27
  t93 := Tryz.underlying112
  a93 := Tryz.isAgg112
  z93 := Tryz.sizeOf112
  v93 := Tryz.zeroValue112
  t130 := Tryz.underlying114
  a130 := Tryz.isAgg114
  z130 := Tryz.sizeOf114
  v130 := Tryz.zeroValue114
  t5 := Tryz.underlying5
  a5 := Tryz.isAgg5
  z5 := Tryz.sizeOf5
  v5 := Tryz.zeroValue5
  t91 := Tryz.underlying110
  a91 := Tryz.isAgg110
  z91 := Tryz.sizeOf110
  v91 := Tryz.zeroValue110
  i0 := by kernel_rfl
  i3 := by kernel_rfl
  i5 := by kernel_rfl
  i37 := by kernel_rfl
  i91 := by kernel_rfl
  i93 := by kernel_rfl
  i130 := by kernel_rfl }
end Go.Proofs

namespace Go.Roar
open Go.RowKit Go.Proofs
theorem Kept.under {w w' : World} (h : Kept (fun _ => False) w w') : Below w.heap.size w w' := ⟨h.os, h.tape, h.output, h.size, fun k hk => h.block k hk id⟩
/-- Block b is a bytes.Buffer that was made here (from block B on), that holds the bytes l. -/
def Bf (w : World) (B b : Nat) (l : List Nat) : Prop := Lib.IsBuffer 112 5 B b (u8s l) w
theorem Bf.mild {w w' : World} {B b : Nat} {l : List Nat} (h : Bf w B b l) (k : Mild w w') : Bf w' B b l := Lib.IsBuffer.old h (Kept.under k)
theorem Bf.lt {w : World} {B b : Nat} {l : List Nat} (h : Bf w B b l) : b < w.heap.size := Lib.IsBuffer.lt h
theorem Bf.le {w : World} {B b : Nat} {l : List Nat} (h : Bf w B b l) : B ≤ b := h.1
theorem Bf.new (w : World) : Bf (w.alloc (.cells #[.slice none 0 0, .int .i64 0, .int .i8 0] 112)) w.heap.size w.heap.size [] := Lib.fresh_isBuffer _ _ w
/-- What has been written into the buffer: the bytes 'more', all. -/
def WrP (B b : Nat) (l more : List Nat) (w : World) (e : Ending) (w' : World) : Prop := e = .returned (.tuple #[.int .i64 (more.length : Int), .nilIface]) ∧ Bf w' B b (l ++ more) ∧ Below B w w'
end Go.Roar
namespace Go.Proofs
open Go.RowKit Go.Roar
theorem bufWrite_any (B b g n c : Nat) (l more r : List Nat) (w : World) (h : Bf w B b l) (hg : b ≠ g) (hb : Blk w g 5 (u8s (more ++ r))) (hn : more.length = n) (hlim : l.length + n ≤ 2000000000) :
    Calls Tryz.prog 264 #[.pointer (some ⟨b, 0, none⟩), .slice (some ⟨g, 0, none⟩) n c] w fun e w' => WrP B b l more w e w' := by
  have hB := h.le
  have hlt := h.lt
  refine (Any.Buffer_Write_any Tryz.laysWrite B b (u8s l) (u8s more) ⟨g, 0, none⟩ n c w h (by omega) (u8s_each _) (by rw [u8s_length, hn]) (fun e => hg e.symm) (fun j v hj => ?_) (u8s_each _) (by rw [u8s_length]; omega)).mono ?_
  · rw [Lib.addr_add, Nat.zero_add, hb.cell j, u8s_append, List.getElem?_append_left (List.getElem?_eq_some_iff.1 hj).1]
    exact hj
  · rintro e w' ⟨rfl, h2, h3, _⟩
    refine ⟨by rw [hn], ?_, h3⟩
    unfold Bf
    rw [u8s_append]
    exact h2
theorem bufBytes_any (B b : Nat) (l : List Nat) (w : World) (h : Bf w B b l) :
    Calls Tryz.prog 50 #[.pointer (some ⟨b, 0, none⟩)] w fun e w' => ∃ v, e = .returned v ∧ Own w' 1 5 v l.length (u8s l) ∧ Mild w w' := by
  refine (Any.Buffer_Bytes Tryz.laysBytes B b (u8s l) w h).mono ?_
  rintro e w' ⟨v, rfl, h1, n, rfl⟩
  rw [u8s_length] at h1
  exact ⟨v, rfl, Own.ofRow h1, (Kept.refl _ _).drewN n⟩
end Go.Proofs

namespace Go.Roar
open Go.RowKit Go.Proofs
theorem enc_take {l : List Nat} {k x : Nat} (h : l[k]? = some x) : (l.take (k + 1)).flatMap enc16 = (l.take k).flatMap enc16 ++ enc16 x := by
  obtain ⟨hk, rfl⟩ := List.getElem?_eq_some_iff.1 h
  rw [List.take_succ_eq_append_getElem hk, List.flatMap_append]; simp
theorem enc_take_len {l : List Nat} {k : Nat} (h : k ≤ l.length) : ((l.take k).flatMap enc16).length = 2 * k := by
  rw [flatMap_length enc16 2 enc16_length, List.length_take, Nat.min_eq_left h]
end Go.Roar
namespace Go.Proofs
open Go.RowKit Go.Roar
theorem infoByte : (Tryz.prog.info? 5).map (fun i => (i.zero, i.size, i.bytes)) = some (some (.int .u8 0), 1, 1) := by kernel_rfl
theorem ahead_buf (a : Addr) (w : World) : (nilAhead 368 114 (.pointer (some a)) "Write").run Tryz.prog w = .ok (some false) w := by kernel_rfl
theorem method_buf (a : Addr) (w : World) : (method 368 114 (.pointer (some a)) "Write").run Tryz.prog w = .ok (264, .pointer (some a)) w := by kernel_rfl

set_option maxRecDepth 100000 in
set_option maxHeartbeats 4000000 in
theorem acWrite_any (p g c : Nat) (l : List Nat) (B b : Nat) (bs : List Nat) (w : World) (h0 : 0 < l.length) (hn : l.length ≤ 4096) (hb : ∀ x ∈ l, x < 65536) (hp : w.cell? ⟨p, 0, none⟩ = some (.slice (some ⟨g, 0, none⟩) l.length c))
    (hc : ∀ (i x : Nat), l[i]? = some x → w.cell? ⟨g, i, none⟩ = some (.int .u16 (x : Int))) (hI : Bf w B b bs) (hlim : bs.length ≤ 1000000000) :
    Calls Tryz.prog 171 #[.pointer (some ⟨p, 0, none⟩), .iface 114 (.pointer (some ⟨b, 0, none⟩))] w fun e w' => WrP B b bs (l.flatMap enc16) w e w' := by
  obtain ⟨iU, zu1, zu2, zu3, zu4⟩ := info_parts infoByte
  have hlt := hI.lt
  have hpl := World.block_lt_of_cell? w _ hp
  have Hc := Lib.hid hc
  have Hb := Lib.hid hb
  have HI := Lib.hid hI
  clear hc hb hI
  have hlen : (l.flatMap enc16).length = 2 * l.length := flatMap_length enc16 2 enc16_length l
  have htk : (l.take l.length).flatMap enc16 = l.flatMap enc16 := by rw [List.take_length]
  generalize hln : l.length = n at *
  have Hln := Lib.hid hln
  have Hlen := Lib.hid hlen
  have Htk := Lib.hid htk
  clear hln hlen htk
  generalize l.flatMap enc16 = E at *
  go_enter Tryz.func171, Tryz.ntmps171
  go_wp2_with (first
    | (at_make; refine wpList_make_blk rfl (.tmp 15) (.tmp 15) 27 rfl 5 iU (.int .u8 0) 1 undU8s zu1 zu2 zu3 .i64 .i64 _ _ (2 * n) rfl rfl (by omega) (by omega) (by rw [zu4]; omega) (by unfold maxLen; omega) ?_; intro w1 hbk hk hsz; have hp1 := hk.cell2 id hp))
  rw [made_u8s] at hbk
  have Hbk : Hid (Blk w1 w.heap.size 5 (u8s (fil ((l.take 0).flatMap enc16) (2 * n)))) := Lib.hid (by rw [List.take_zero, List.flatMap_nil, fil_nil]; exact hbk)
  have Hk1 := Lib.hid hk
  clear hbk hk hp1
  obtain ⟨D, hD⟩ : ∃ D, D = w.heap.size := ⟨_, rfl⟩
  rw [← hD] at Hbk ⊢
  have HD := Lib.hid hD
  clear hD
  go_loopw [22] (fun i wr => ∃ k : Nat, i = .int .i64 k ∧ k ≤ n ∧ Hid (Mild w wr) ∧ Hid (Blk wr D 5 (u8s (fil ((l.take k).flatMap enc16) (2 * n))))) (fun i _ => n - (intOf i).toNat)
  case atStart => exact ⟨0, rfl, Nat.zero_le _, Hk1, Hbk⟩
  case round =>
    obtain ⟨k, rfl, hk, Hm, Hbl⟩ := hrel
    by_cases hkn : k < n
    · obtain ⟨x, hx⟩ : ∃ x, l[k]? = some x := ⟨_, List.getElem?_eq_getElem (by rw [Hln.out]; exact hkn)⟩
      have hxb := Hb.out x (List.mem_of_getElem? hx)
      have cx := Hm.out.cell2 id (Hc.out k x hx)
      have i1 : (k : Int) < (n : Int) := by omega
      have hdl : ((l.take k).flatMap enc16).length = k * 2 := by rw [enc_take_len (by rw [Hln.out]; exact hk), Nat.mul_comm]
      have hst : ((u8s (fil ((l.take k).flatMap enc16) (2 * n))).set (k * 2) (.int .u8 ((x % 256 : Nat) : Int))).set (k * 2 + 1) (.int .u8 ((x / 256 : Nat) : Int)) = u8s (fil ((l.take (k + 1)).flatMap enc16) (2 * n)) := by
        rw [u8s_set, u8s_set, enc_take hx, ← hdl, fil_set2 (by omega)]; rfl
      obtain ⟨v0, e0⟩ := fil_at (done := (l.take k).flatMap enc16) (N := 2 * n) (i := k * 2) (by omega) (by omega)
      obtain ⟨v1, e1⟩ := fil_at (done := (l.take k).flatMap enc16) (N := 2 * n) (i := k * 2 + 1) (by omega) (by omega)
      have c0 := (Hbl.out.cell (k * 2)).trans e0
      have c1 := (Hbl.out.cell (k * 2 + 1)).trans e1
      have f0 := Hbl.out.free (k * 2)
      have f1 := Hbl.out.free (k * 2 + 1)
      have Hst := Lib.hid hst
      clear hst e0 e1 hx hdl
      have i2 : (k : Int) * 2 < 2 * (n : Int) := by omega
      have i3 : (k : Int) * 2 + 1 < 2 * (n : Int) := by omega
      have d2 : ((k : Int) * 2).toNat = k * 2 := by omega
      have d3 : ((k : Int) * 2 + 1).toNat = k * 2 + 1 := by omega
      have p2 : (0 : Int) ≤ (k : Int) * 2 := by omega
      have p3 : (0 : Int) ≤ (k : Int) * 2 + 1 := by omega
      go_wp2_with fail
      go_roundw
      case rel =>
        refine ⟨k + 1, by go_num, by omega, ?_, ?_⟩
        · exact Lib.hid ((Hm.out.setCell (p := ⟨D, k * 2, none⟩) (fun h => absurd h (by have := HD.out; show ¬ D < _; omega)) _).setCell (p := ⟨D, k * 2 + 1, none⟩) (fun h => absurd h (by have := HD.out; show ¬ D < _; omega)) _)
        · rw [← Hst.out, show ((x : Int) % 256) = ((x % 256 : Nat) : Int) by omega, show ((x : Int) / 256) = ((x / 256 : Nat) : Int) by omega]
          exact Lib.hid ((Hbl.out.set _ _).set _ _)
      case measure => simp only [intOf]; omega
    · obtain rfl : k = n := by omega
      have hbl := Hbl.out
      rw [Htk.out, fil_all Hlen.out] at hbl
      have HW := Lib.hid (HI.out.mild Hm.out)
      have HBL := Lib.hid hbl
      clear hbl
      have N1 := ahead_buf ⟨b, 0, none⟩
      have N2 := method_buf ⟨b, 0, none⟩
      have C := Lib.hid (bufWrite_any B b D (2 * k) (2 * k) bs E [] wr HW.out (by have := HD.out; omega) (by rw [List.append_nil]; exact HBL.out) Hlen.out (by omega))
      go_wp2_with (first
        | (go_at_call 264; refine C.out.mono ?_; rintro ed w3 ⟨rfl, q1, q2⟩)
        | fail)
      go_ret2
      exact ⟨rfl, q1, ((Kept.under Hm.out).mono (by have := HI.out.le; have := HI.out.lt; omega)).trans q2⟩
end Go.Proofs
