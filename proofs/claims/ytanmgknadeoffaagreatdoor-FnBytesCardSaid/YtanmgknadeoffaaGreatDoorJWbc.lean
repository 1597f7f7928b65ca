/-
  bitmapContainer.writeTo.
  runContainer16.writeTo.
  A container of any kind is written: the method writeTo, by the container's type.
-/
import Derived.Test.YtanmgknadeoffaaGreatDoorJShl
import Derived.Test.YtanmgknadeoffaaGreatDoorJFm
import Derived.Test.YtanmgknadeoffaaGreatDoorJCc
import Derived.Deep.RegionHeld3
import Derived.Deep.DeepCutAuto
namespace Go.Roar
open Go.RowKit Go.Proofs
theorem fil_set8 {done : List Nat} {N a b c d e f g h : Nat} (hl : done.length + 8 ≤ N) :
    ((((((((fil done N).set done.length a).set (done.length + 1) b).set (done.length + 2) c).set (done.length + 3) d).set (done.length + 4) e).set (done.length + 5) f).set (done.length + 6) g).set (done.length + 7) h = fil (done ++ [a, b, c, d, e, f, g, h]) N := by
  have e2 : done.length + 2 = (done ++ [a, b]).length := by simp
  have e4 : done.length + 4 = (done ++ [a, b] ++ [c, d]).length := by simp
  have e6 : done.length + 6 = (done ++ [a, b] ++ [c, d] ++ [e, f]).length := by simp
  rw [fil_set2 (by omega)]
  rw [show done.length + 3 = done.length + 2 + 1 from rfl, e2, fil_set2 (by rw [← e2]; omega)]
  rw [show done.length + 5 = done.length + 4 + 1 from rfl, e4, fil_set2 (by rw [← e4]; omega)]
  rw [show done.length + 7 = done.length + 6 + 1 from rfl, e6, fil_set2 (by rw [← e6]; omega)]
  simp [List.append_assoc]
theorem enc64_take {l : List Nat} {k x : Nat} (h : l[k]? = some x) : (l.take (k + 1)).flatMap enc64 = (l.take k).flatMap enc64 ++ enc64 x := by
  obtain ⟨hk, rfl⟩ := List.getElem?_eq_some_iff.1 h
  rw [List.take_succ_eq_append_getElem hk, List.flatMap_append]; simp
end Go.Roar
namespace Go.Proofs
open Go.RowKit Go.Roar

set_option maxRecDepth 100000 in
set_option maxHeartbeats 4000000 in
theorem bcWrite_any (p g c card : Nat) (l : List Nat) (B b : Nat) (bs : List Nat) (w : World) (hn : l.length = 1024) (h0 : 4096 < card) (hcard : card ≤ 65536) (hb : ∀ x ∈ l, x < 18446744073709551616) (hq : w.cell? ⟨p, 0, none⟩ = some (.int .i64 (card : Int))) (hp : w.cell? ⟨p, 1, none⟩ = some (.slice (some ⟨g, 0, none⟩) 1024 c))
    (hc : ∀ (i x : Nat), l[i]? = some x → w.cell? ⟨g, i, none⟩ = some (.int .u64 (x : Int))) (hI : Bf w B b bs) (hlim : bs.length ≤ 1000000000) :
    Calls Tryz.prog 248 #[.pointer (some ⟨p, 0, none⟩), .iface 114 (.pointer (some ⟨b, 0, none⟩))] w fun e w' => WrP B b bs (l.flatMap enc64) w e w' := by
  obtain ⟨iU, zu1, zu2, zu3, zu4⟩ := info_parts infoByte
  have hlt := hI.lt
  have hpl := World.block_lt_of_cell? w _ hp
  have Hc := Lib.hid hc
  have Hb := Lib.hid hb
  have HI := Lib.hid hI
  clear hc hb hI
  have hlen : (l.flatMap enc64).length = 8192 := by rw [flatMap_length enc64 8 enc64_length l, hn]
  have htk : (l.take l.length).flatMap enc64 = l.flatMap enc64 := by rw [List.take_length]
  rw [hn] at htk
  have Hln := Lib.hid hn
  have Hlen := Lib.hid hlen
  have Htk := Lib.hid htk
  clear hn hlen htk
  generalize l.flatMap enc64 = E at *
  go_enter Tryz.func248, Tryz.ntmps248
  go_wp2_with (first
    | (at_make; refine wpList_make_blk rfl (.tmp 21) (.tmp 21) 27 rfl 5 iU (.int .u8 0) 1 undU8s zu1 zu2 zu3 .i64 .i64 _ _ (8192) rfl rfl (by omega) (by omega) (by rw [zu4]; omega) (by unfold maxLen; omega) ?_; intro w1 hbk hk hsz; have hp1 := hk.cell2 id hp; have hq1 := hk.cell2 id hq))
  rw [made_u8s] at hbk
  have Hbk : Hid (Blk w1 w.heap.size 5 (u8s (fil ((l.take 0).flatMap enc64) (8192)))) := Lib.hid (by rw [List.take_zero, List.flatMap_nil, fil_nil]; exact hbk)
  have Hk1 := Lib.hid hk
  clear hbk hk hp1 hq1
  obtain ⟨D, hD⟩ : ∃ D, D = w.heap.size := ⟨_, rfl⟩
  rw [← hD] at Hbk ⊢
  have HD := Lib.hid hD
  clear hD
  go_loopw [28] (fun i wr => ∃ k : Nat, i = .int .i64 k ∧ k ≤ 1024 ∧ Hid (Mild w wr) ∧ Hid (Blk wr D 5 (u8s (fil ((l.take k).flatMap enc64) (8192))))) (fun i _ => 1024 - (intOf i).toNat)
  case atStart => exact ⟨0, rfl, Nat.zero_le _, Hk1, Hbk⟩
  case round =>
    obtain ⟨k, rfl, hk, Hm, Hbl⟩ := hrel
    by_cases hkn : k < 1024
    · obtain ⟨x, hx⟩ : ∃ x, l[k]? = some x := ⟨_, List.getElem?_eq_getElem (by rw [Hln.out]; exact hkn)⟩
      have hxb := Hb.out x (List.mem_of_getElem? hx)
      have cx := Hm.out.cell2 id (Hc.out k x hx)
      have i1 : (k : Int) < 1024 := by omega
      have hdl : ((l.take k).flatMap enc64).length = k * 8 := by rw [flatMap_length enc64 8 enc64_length, List.length_take, Nat.min_eq_left (by rw [Hln.out]; exact hk), Nat.mul_comm]
      have hst : ((((((((u8s (fil ((l.take k).flatMap enc64) 8192)).set (k * 8) (.int .u8 ((x % 256 : Nat) : Int))).set (k * 8 + 1) (.int .u8 ((x / 256 % 256 : Nat) : Int))).set (k * 8 + 2) (.int .u8 ((x / 65536 % 256 : Nat) : Int))).set (k * 8 + 3) (.int .u8 ((x / 16777216 % 256 : Nat) : Int))).set (k * 8 + 4) (.int .u8 ((x / 4294967296 % 256 : Nat) : Int))).set (k * 8 + 5) (.int .u8 ((x / 1099511627776 % 256 : Nat) : Int))).set (k * 8 + 6) (.int .u8 ((x / 281474976710656 % 256 : Nat) : Int))).set (k * 8 + 7) (.int .u8 ((x / 72057594037927936 : Nat) : Int)) = u8s (fil ((l.take (k + 1)).flatMap enc64) 8192) := by
        rw [u8s_set, u8s_set, u8s_set, u8s_set, u8s_set, u8s_set, u8s_set, u8s_set, enc64_take hx, ← hdl, fil_set8 (by omega)]; rfl
      obtain ⟨v0, e0⟩ := fil_at (done := (l.take k).flatMap enc64) (N := 8192) (i := k * 8) (by omega) (by omega)
      have c0 := (Hbl.out.cell (k * 8)).trans e0
      have f0 := Hbl.out.free (k * 8)
      have i20 : (k : Int) * 8 < 8192 := by omega
      have d0 : ((k : Int) * 8).toNat = k * 8 := by omega
      have p0 : (0 : Int) ≤ (k : Int) * 8 := by omega
      obtain ⟨v1, e1⟩ := fil_at (done := (l.take k).flatMap enc64) (N := 8192) (i := k * 8 + 1) (by omega) (by omega)
      have c1 := (Hbl.out.cell (k * 8 + 1)).trans e1
      have f1 := Hbl.out.free (k * 8 + 1)
      have i21 : (k : Int) * 8 + 1 < 8192 := by omega
      have d1 : ((k : Int) * 8 + 1).toNat = k * 8 + 1 := by omega
      have p1 : (0 : Int) ≤ (k : Int) * 8 + 1 := by omega
      obtain ⟨v2, e2⟩ := fil_at (done := (l.take k).flatMap enc64) (N := 8192) (i := k * 8 + 2) (by omega) (by omega)
      have c2 := (Hbl.out.cell (k * 8 + 2)).trans e2
      have f2 := Hbl.out.free (k * 8 + 2)
      have i22 : (k : Int) * 8 + 2 < 8192 := by omega
      have d2 : ((k : Int) * 8 + 2).toNat = k * 8 + 2 := by omega
      have p2 : (0 : Int) ≤ (k : Int) * 8 + 2 := by omega
      obtain ⟨v3, e3⟩ := fil_at (done := (l.take k).flatMap enc64) (N := 8192) (i := k * 8 + 3) (by omega) (by omega)
      have c3 := (Hbl.out.cell (k * 8 + 3)).trans e3
      have f3 := Hbl.out.free (k * 8 + 3)
      have i23 : (k : Int) * 8 + 3 < 8192 := by omega
      have d3 : ((k : Int) * 8 + 3).toNat = k * 8 + 3 := by omega
      have p3 : (0 : Int) ≤ (k : Int) * 8 + 3 := by omega
      obtain ⟨v4, e4⟩ := fil_at (done := (l.take k).flatMap enc64) (N := 8192) (i := k * 8 + 4) (by omega) (by omega)
      have c4 := (Hbl.out.cell (k * 8 + 4)).trans e4
      have f4 := Hbl.out.free (k * 8 + 4)
      have i24 : (k : Int) * 8 + 4 < 8192 := by omega
      have d4 : ((k : Int) * 8 + 4).toNat = k * 8 + 4 := by omega
      have p4 : (0 : Int) ≤ (k : Int) * 8 + 4 := by omega
      obtain ⟨v5, e5⟩ := fil_at (done := (l.take k).flatMap enc64) (N := 8192) (i := k * 8 + 5) (by omega) (by omega)
      have c5 := (Hbl.out.cell (k * 8 + 5)).trans e5
      have f5 := Hbl.out.free (k * 8 + 5)
      have i25 : (k : Int) * 8 + 5 < 8192 := by omega
      have d5 : ((k : Int) * 8 + 5).toNat = k * 8 + 5 := by omega
      have p5 : (0 : Int) ≤ (k : Int) * 8 + 5 := by omega
      obtain ⟨v6, e6⟩ := fil_at (done := (l.take k).flatMap enc64) (N := 8192) (i := k * 8 + 6) (by omega) (by omega)
      have c6 := (Hbl.out.cell (k * 8 + 6)).trans e6
      have f6 := Hbl.out.free (k * 8 + 6)
      have i26 : (k : Int) * 8 + 6 < 8192 := by omega
      have d6 : ((k : Int) * 8 + 6).toNat = k * 8 + 6 := by omega
      have p6 : (0 : Int) ≤ (k : Int) * 8 + 6 := by omega
      obtain ⟨v7, e7⟩ := fil_at (done := (l.take k).flatMap enc64) (N := 8192) (i := k * 8 + 7) (by omega) (by omega)
      have c7 := (Hbl.out.cell (k * 8 + 7)).trans e7
      have f7 := Hbl.out.free (k * 8 + 7)
      have i27 : (k : Int) * 8 + 7 < 8192 := by omega
      have d7 : ((k : Int) * 8 + 7).toNat = k * 8 + 7 := by omega
      have p7 : (0 : Int) ≤ (k : Int) * 8 + 7 := by omega
      have Hst := Lib.hid hst
      clear hst hx hdl e0 e1 e2 e3 e4 e5 e6 e7
      go_wp2_with fail
      go_roundw
      case rel =>
        refine ⟨k + 1, by go_num, by omega, ?_, ?_⟩
        · have hDn : ¬ D < w.heap.size := by have := HD.out; omega
          exact Lib.hid ((((((((Hm.out.setCell (p := ⟨D, k * 8, none⟩) (fun h => absurd h hDn) _).setCell (p := ⟨D, k * 8 + 1, none⟩) (fun h => absurd h hDn) _).setCell (p := ⟨D, k * 8 + 2, none⟩) (fun h => absurd h hDn) _).setCell (p := ⟨D, k * 8 + 3, none⟩) (fun h => absurd h hDn) _).setCell (p := ⟨D, k * 8 + 4, none⟩) (fun h => absurd h hDn) _).setCell (p := ⟨D, k * 8 + 5, none⟩) (fun h => absurd h hDn) _).setCell (p := ⟨D, k * 8 + 6, none⟩) (fun h => absurd h hDn) _).setCell (p := ⟨D, k * 8 + 7, none⟩) (fun h => absurd h hDn) _)
        · rw [← Hst.out, show ((x : Int) % 256) = ((x % 256 : Nat) : Int) by omega, show ((x : Int) / 256 % 256) = ((x / 256 % 256 : Nat) : Int) by omega, show ((x : Int) / 65536 % 256) = ((x / 65536 % 256 : Nat) : Int) by omega, show ((x : Int) / 16777216 % 256) = ((x / 16777216 % 256 : Nat) : Int) by omega, show ((x : Int) / 4294967296 % 256) = ((x / 4294967296 % 256 : Nat) : Int) by omega, show ((x : Int) / 1099511627776 % 256) = ((x / 1099511627776 % 256 : Nat) : Int) by omega, show ((x : Int) / 281474976710656 % 256) = ((x / 281474976710656 % 256 : Nat) : Int) by omega, show ((x : Int) / 72057594037927936) = ((x / 72057594037927936 : Nat) : Int) by omega]
          exact Lib.hid ((((((((Hbl.out.set _ _).set _ _).set _ _).set _ _).set _ _).set _ _).set _ _).set _ _)
      case measure => simp only [intOf]; omega
    · obtain rfl : k = 1024 := by omega
      have hbl := Hbl.out
      rw [Htk.out, fil_all Hlen.out] at hbl
      have HW := Lib.hid (HI.out.mild Hm.out)
      have HBL := Lib.hid hbl
      clear hbl
      have N1 := ahead_buf ⟨b, 0, none⟩
      have N2 := method_buf ⟨b, 0, none⟩
      have C := Lib.hid (bufWrite_any B b D 8192 8192 bs E [] wr HW.out (by have := HD.out; omega) (by rw [List.append_nil]; exact HBL.out) Hlen.out (by omega))
      go_wp2_with (first
        | (go_at_call 264; refine C.out.mono ?_; rintro ed w3 ⟨rfl, q1, q2⟩)
        | fail)
      go_ret2
      exact ⟨rfl, q1, ((Kept.under Hm.out).mono (by have := HI.out.le; have := HI.out.lt; omega)).trans q2⟩
end Go.Proofs

namespace Go.Roar
open Go.RowKit Go.Proofs
theorem runNums_take {rs : List (Nat × Nat)} {k : Nat} {r : Nat × Nat} (h : rs[k]? = some r) : (runNums (rs.take (k + 1))).flatMap enc16 = (runNums (rs.take k)).flatMap enc16 ++ enc16 r.1 ++ enc16 (r.2 - r.1) := by
  obtain ⟨hk, rfl⟩ := List.getElem?_eq_some_iff.1 h
  unfold runNums
  rw [List.take_succ_eq_append_getElem hk, List.flatMap_append, List.flatMap_append]
  simp
theorem runNums_len {rs : List (Nat × Nat)} {k : Nat} (h : k ≤ rs.length) : ((runNums (rs.take k)).flatMap enc16).length = 4 * k := by
  rw [flatMap_length enc16 2 enc16_length, runNums_length, List.length_take, Nat.min_eq_left h]; omega
end Go.Roar
namespace Go.Proofs
open Go.RowKit Go.Roar

set_option maxRecDepth 100000 in
set_option maxHeartbeats 4000000 in
theorem rcWrite_any (p g c : Nat) (rs : List (Nat × Nat)) (B b : Nat) (bs : List Nat) (w : World) (h0 : 0 < rs.length) (hn : rs.length ≤ 32768) (hr : RgOK 65536 rs) (hp : w.cell? ⟨p, 0, none⟩ = some (.slice (some ⟨g, 0, none⟩) rs.length c))
    (hc : ∀ (i : Nat) (r : Nat × Nat), rs[i]? = some r → w.cell? ⟨g, i * 2, none⟩ = some (.int .u16 (r.1 : Int)) ∧ w.cell? ⟨g, i * 2 + 1, none⟩ = some (.int .u16 ((r.2 - r.1 : Nat) : Int))) (hI : Bf w B b bs) (hlim : bs.length ≤ 1000000000) :
    Calls Tryz.prog 326 #[.pointer (some ⟨p, 0, none⟩), .iface 114 (.pointer (some ⟨b, 0, none⟩))] w fun e w' => WrP B b bs (enc16 rs.length ++ (runNums rs).flatMap enc16) w e w' := by
  obtain ⟨iU, zu1, zu2, zu3, zu4⟩ := info_parts infoByte
  have hlt := hI.lt
  have hpl := World.block_lt_of_cell? w _ hp
  have Hc := Lib.hid hc
  have Hr := Lib.hid hr
  have HI := Lib.hid hI
  clear hc hr hI
  have hlen : (enc16 rs.length ++ (runNums rs).flatMap enc16).length = 2 + 4 * rs.length := by rw [List.length_append, flatMap_length enc16 2 enc16_length, runNums_length, enc16_length]; omega
  have htk : enc16 rs.length ++ (runNums (rs.take rs.length)).flatMap enc16 = enc16 rs.length ++ (runNums rs).flatMap enc16 := by rw [List.take_length]
  have hst := fun (k : Nat) (r : Nat × Nat) (h : rs[k]? = some r) => runNums_take h
  have hsl := fun (k : Nat) (h : k ≤ rs.length) => runNums_len h
  generalize hln : rs.length = n at *
  have Hln := Lib.hid hln
  have Hlen := Lib.hid hlen
  have Htk := Lib.hid htk
  have HST := Lib.hid hst
  have HSL := Lib.hid hsl
  clear hln hlen htk hst hsl
  generalize enc16 n ++ (runNums rs).flatMap enc16 = E at *
  obtain ⟨N, hN⟩ : ∃ N, N = 2 + 4 * n := ⟨_, rfl⟩
  have HN := Lib.hid hN
  clear hN
  go_enter Tryz.func326, Tryz.ntmps326
  go_wp2_with (first
    | (at_make; refine wpList_make_blk rfl (.tmp 15) (.tmp 15) 27 rfl 5 iU (.int .u8 0) 1 undU8s zu1 zu2 zu3 .i64 .i64 _ _ N rfl rfl (by have := HN.out; omega) (by have := HN.out; omega) (by have := HN.out; rw [zu4]; omega) (by have := HN.out; unfold maxLen; omega) ?_; intro w1 hbk hk hsz; have hp1 := hk.cell2 id hp))
  rw [made_u8s] at hbk
  obtain ⟨D, hD⟩ : ∃ D, D = w.heap.size := ⟨_, rfl⟩
  rw [← hD] at hbk ⊢
  have HD := Lib.hid hD
  clear hD
  have Hbk : Hid (Blk w1 D 5 (u8s (fil [] N))) := Lib.hid (by rw [fil_nil]; exact hbk)
  have Hk1 := Lib.hid hk
  have N2 : 2 < N := by have := HN.out; omega
  clear hbk hk
  have sl0 := fun (W : World) => run_cut_from (P := Tryz.prog) W undU8s szU8 D 0 N N 0 .i64 0 rfl (by omega) (by omega)
  simp only [Nat.add_zero, Nat.sub_zero] at sl0
  have wn : IntKind.u16.wrap (n : Int) = (n : Int) := IntWalk.u16_in _ (by omega)
  have pt : Hid (∀ W : World, Mild w1 W → Calls Tryz.prog 69 #[.agg #[], .slice (some ⟨D, 0, none⟩) N N, .int .u16 (n : Int)] W fun e w' => e = .returned (.tuple #[]) ∧ Blk w' D 5 (u8s (fil ([] ++ enc16 n) N)) ∧ Kept (fun b => b = D) W w') := Lib.hid (fun W hW => put16_any D 0 N N N n [] W (Hbk.out.kept hW id) rfl (by omega) (by omega) (by omega))
  go_region_with (first
    | (go_at_call 69; refine (pt.out _ ((Kept.refl _ _).drew)).mono ?_; rintro ed w2 ⟨rfl, hb2, hk2⟩))
  all_goals
    have Hm2 : Hid (Mild w w2) := Lib.hid (Kept.then (Hk1.out.drew) hk2 (fun k hk h => by have := HD.out; omega))
    have Hb2 : Hid (Blk w2 D 5 (u8s (fil (enc16 n ++ (runNums (rs.take 0)).flatMap enc16) N))) := Lib.hid (by rw [List.take_zero]; show Blk w2 D _ (u8s (fil (enc16 n ++ []) N)); rw [List.append_nil]; exact hb2)
    have hp2 := Hm2.out.cell2 id hp
    clear hb2 hk2 hp1 pt sl0 wn
    go_wp2_with fail
    go_loopw [32] (fun i wr => ∃ k : Nat, i = .int .i64 k ∧ k ≤ n ∧ Hid (Mild w wr) ∧ Hid (Blk wr D 5 (u8s (fil (enc16 n ++ (runNums (rs.take k)).flatMap enc16) N)))) (fun i _ => n - (intOf i).toNat)
    case atStart => exact ⟨0, rfl, Nat.zero_le _, Hm2, Hb2⟩
    case round =>
      obtain ⟨k, rfl, hk, Hm, Hbl⟩ := hrel
      by_cases hkn : k < n
      · obtain ⟨r, hx⟩ : ∃ r, rs[k]? = some r := ⟨_, List.getElem?_eq_getElem (by rw [Hln.out]; exact hkn)⟩
        obtain ⟨r1, r2⟩ := Hr.out.1 r (List.mem_of_getElem? hx)
        have ca := Hm.out.cell2 id (Hc.out k r hx).1
        have cb := Hm.out.cell2 id (Hc.out k r hx).2
        have i1 : (k : Int) < (n : Int) := by omega
        have Hst := Lib.hid (HST.out k r hx)
        have Hsl := Lib.hid (HSL.out k hk)
        obtain ⟨a, ha⟩ : ∃ a, a = r.1 := ⟨_, rfl⟩
        obtain ⟨z, hz⟩ : ∃ z, z = r.2 - r.1 := ⟨_, rfl⟩
        rw [← ha] at ca
        rw [← hz] at cb
        rw [← hz, ← ha] at Hst
        have ha6 : a < 65536 := by omega
        have hz6 : z < 65536 := by omega
        clear hx ha hz r1 r2
        have hb0 := Hbl.out.alloc (.cells #[.int .u16 (a : Int), .int .u16 (z : Int)] 178)
        have hm0 := Hm.out.alloc (.cells #[.int .u16 (a : Int), .int .u16 (z : Int)] 178)
        have hq := Blk.new wr 178 [.int .u16 (a : Int), .int .u16 (z : Int)]
        go_wp2_with fail
        have hDQ := Hbl.out.lt
        generalize wr.alloc (.cells #[.int .u16 (a : Int), .int .u16 (z : Int)] 178) = W at *
        generalize wr.heap.size = Q at *
        have q0 : W.cell? ⟨Q, 0, none⟩ = some (.int .u16 (a : Int)) := hq.cell 0
        have q1 : W.cell? ⟨Q, 1, none⟩ = some (.int .u16 (z : Int)) := hq.cell 1
        have HM0 := Lib.hid hm0
        clear hq hm0
        have hN := HN.out
        have r1 : IntKind.i64.wrap ((k : Int) * 4) = (k : Int) * 4 := IntWalk.i64_in _ (by omega)
        have r2 : IntKind.i64.wrap (2 + (k : Int) * 4) = 2 + (k : Int) * 4 := IntWalk.i64_in _ (by omega)
        have r3 : IntKind.i64.wrap (4 + (k : Int) * 4) = 4 + (k : Int) * 4 := IntWalk.i64_in _ (by omega)
        have sl1 := fun (W : World) => run_cut_from (P := Tryz.prog) W undU8s szU8 D 0 N N (2 + 4 * k) .i64 (2 + (k : Int) * 4) (by omega) (by omega) (by omega)
        have sl2 := fun (W : World) => run_cut_from (P := Tryz.prog) W undU8s szU8 D 0 N N (4 + 4 * k) .i64 (4 + (k : Int) * 4) (by omega) (by omega) (by omega)
        simp only [Nat.zero_add] at sl1 sl2
        generalize hdn : enc16 n ++ (runNums (rs.take k)).flatMap enc16 = done at *
        have hdl : done.length = 2 + 4 * k := by rw [← hdn, List.length_append, Hsl.out, enc16_length]
        have Hst2 : Hid (enc16 n ++ (runNums (rs.take (k + 1))).flatMap enc16 = done ++ enc16 a ++ enc16 z) := Lib.hid (by rw [Hst.out, ← hdn]; simp only [List.append_assoc])
        have P1 := Lib.hid (put16_any D (2 + 4 * k) (N - (2 + 4 * k)) (N - (2 + 4 * k)) N a done W.drew hb0.drew hdl (by omega) (by omega) ha6)
        have P2 := Lib.hid (fun (W' : World) (h : Blk W' D 5 (u8s (fil (done ++ enc16 a) N))) => put16_any D (4 + 4 * k) (N - (4 + 4 * k)) (N - (4 + 4 * k)) N z (done ++ enc16 a) W' h (by rw [List.length_append, hdl, enc16_length]; omega) (by omega) (by omega) hz6)
        clear hb0 hdn hdl Hsl Hst hN
        go_region_with (first
          | (go_at_call 69; refine P1.out.mono ?_; rintro ed w3 ⟨rfl, hb3, hk3⟩; have q3 := hk3.cell2 (show ¬ Q = D by omega) q1))
        all_goals
          go_wp2_with fail
          go_region_with (first
            | (go_at_call 69; refine (P2.out w3.drew hb3.drew).mono ?_; rintro ed w4 ⟨rfl, hb4, hk4⟩))
          all_goals
            go_wp2_with fail
            go_roundw
            case rel =>
              refine ⟨k + 1, by go_num, by omega, Lib.hid ?_, Lib.hid ?_⟩
              · exact Kept.then (Kept.then HM0.out.drew hk3 (fun j hj h => by have := HD.out; omega)).drew hk4 (fun j hj h => by have := HD.out; omega)
              · rw [Hst2.out]; exact hb4
            case measure => simp only [intOf]; omega
      · obtain rfl : k = n := by omega
        have hbl := Hbl.out
        rw [Htk.out, fil_all (by rw [Hlen.out, HN.out])] at hbl
        have N1 := ahead_buf ⟨b, 0, none⟩
        have N2 := method_buf ⟨b, 0, none⟩
        have HW := Lib.hid (HI.out.mild Hm.out)
        have HBL := Lib.hid hbl
        have hN := HN.out
        clear hbl
        have C := Lib.hid (bufWrite_any B b D N N bs E [] wr HW.out (by have := HD.out; omega) (by rw [List.append_nil]; exact HBL.out) (by rw [Hlen.out, hN]) (by omega))
        clear hN
        go_wp2_with (first
          | (go_at_call 264; refine C.out.mono ?_; rintro ed w3 ⟨rfl, q1, q2⟩)
          | fail)
        go_ret2
        exact ⟨rfl, q1, ((Kept.under Hm.out).mono (by have := HI.out.le; have := HI.out.lt; omega)).trans q2⟩
end Go.Proofs

namespace Go.Proofs
open Go.RowKit Go.Roar
theorem ahead_ac_wr (a : Addr) (w : World) : (nilAhead 368 84 (.pointer (some a)) "loop.example/pub-g03248/pub/roaring.writeTo").run Tryz.prog w = .ok (some false) w := by kernel_rfl
theorem method_ac_wr (a : Addr) (w : World) : (method 368 84 (.pointer (some a)) "loop.example/pub-g03248/pub/roaring.writeTo").run Tryz.prog w = .ok (171, .pointer (some a)) w := by kernel_rfl
theorem call_ac_wr (v : Value) (t : TypeId) (s : Value) (w : World) : (callFunc 171 #[v, .iface t s]).run Tryz.prog w = .ok (.enter 171 #[v, .iface t s]) w := by kernel_rfl
theorem ahead_bc_wr (a : Addr) (w : World) : (nilAhead 368 85 (.pointer (some a)) "loop.example/pub-g03248/pub/roaring.writeTo").run Tryz.prog w = .ok (some false) w := by kernel_rfl
theorem method_bc_wr (a : Addr) (w : World) : (method 368 85 (.pointer (some a)) "loop.example/pub-g03248/pub/roaring.writeTo").run Tryz.prog w = .ok (248, .pointer (some a)) w := by kernel_rfl
theorem call_bc_wr (v : Value) (t : TypeId) (s : Value) (w : World) : (callFunc 248 #[v, .iface t s]).run Tryz.prog w = .ok (.enter 248 #[v, .iface t s]) w := by kernel_rfl
theorem ahead_rc_wr (a : Addr) (w : World) : (nilAhead 368 141 (.pointer (some a)) "loop.example/pub-g03248/pub/roaring.writeTo").run Tryz.prog w = .ok (some false) w := by kernel_rfl
theorem method_rc_wr (a : Addr) (w : World) : (method 368 141 (.pointer (some a)) "loop.example/pub-g03248/pub/roaring.writeTo").run Tryz.prog w = .ok (326, .pointer (some a)) w := by kernel_rfl
theorem call_rc_wr (v : Value) (t : TypeId) (s : Value) (w : World) : (callFunc 326 #[v, .iface t s]).run Tryz.prog w = .ok (.enter 326 #[v, .iface t s]) w := by kernel_rfl
/-- The method writeTo of a container. -/
theorem kc_write {c : Value} {l : List Nat} {k : Nat} {L : List HA} (h : KC c l k L) : ∃ (tt : TypeId) (a : Addr) (fn : Nat), c = .iface tt (.pointer (some a)) ∧
    (∀ w, (nilAhead 368 tt (.pointer (some a)) "loop.example/pub-g03248/pub/roaring.writeTo").run Tryz.prog w = .ok (some false) w) ∧
    (∀ w, (method 368 tt (.pointer (some a)) "loop.example/pub-g03248/pub/roaring.writeTo").run Tryz.prog w = .ok (fn, .pointer (some a)) w) ∧
    (∀ (t : TypeId) (s : Value) (w : World), (callFunc fn #[.pointer (some a), .iface t s]).run Tryz.prog w = .ok (.enter fn #[.pointer (some a), .iface t s]) w) ∧
    ∀ (B b : Nat) (bs : List Nat) (w : World), Parts w L → Bf w B b bs → bs.length ≤ 1000000000 → Calls Tryz.prog fn #[.pointer (some a), .iface 114 (.pointer (some ⟨b, 0, none⟩))] w fun e w' => WrP B b bs (bodyOf (runsOf l) k) w e w' := by
  cases h with
  | arr p v _ hs hb h0 hn => exact ⟨_, _, _, rfl, fun w => ahead_ac_wr _ w, fun w => method_ac_wr _ w, fun t s w => call_ac_wr _ t s w, fun B b bs w hp hI hl => by
      have ho : Own w 1 44 v l.length (u16s l) := hp.all (O 1 44 v l.length (u16s l)) (by simp [AC])
      have hB : Blk w p 147 [v] := hp.all (Go.Roar.B p 147 [v]) (by simp [AC])
      obtain ⟨g, c, rfl, _, _⟩ := Own.shape ho (List.length_pos_iff.2 h0)
      have e : bodyOf (runsOf l) 0 = l.flatMap enc16 := by unfold bodyOf; rw [if_pos rfl, (runsOf_ok (n := 65536) l hs hb).2]
      rw [e]
      exact acWrite_any p g c l B b bs w (List.length_pos_iff.2 h0) hn hb (hB.cell 0) (fun i x hx => (Own.cellAt ho (u16s_get hx)).1) hI hl⟩
  | bmp p g c ws _ hl hb h0 hx => exact ⟨_, _, _, rfl, fun w => ahead_bc_wr _ w, fun w => method_bc_wr _ w, fun t s w => call_bc_wr _ t s w, fun B b bs w hp hI hll => by
      have hB : Blk w p 145 [.int .i64 (l.length : Int), .slice (some ⟨g, 0, none⟩) 1024 c] := hp.all (Go.Roar.B p 145 [.int .i64 (l.length : Int), .slice (some ⟨g, 0, none⟩) 1024 c]) (by simp [BC])
      have ho : Own w 1 28 (.slice (some ⟨g, 0, none⟩) 1024 c) 1024 (u64s ws) := hp.all (O 1 28 (.slice (some ⟨g, 0, none⟩) 1024 c) 1024 (u64s ws)) (by simp [BC])
      have hpl := (KC.bmp p g c ws l hl hb h0 hx).plain
      have hcn := sorted_count hpl.1 65536 hpl.2.1
      have e : bodyOf (runsOf l) 1 = ws.flatMap enc64 := by unfold bodyOf; rw [if_neg (by decide), if_pos rfl, (runsOf_ok (n := 65536) l hpl.1 hpl.2.1).2, words_bits hl hb hx]
      rw [e]
      exact bcWrite_any p g c l.length ws B b bs w hl h0 hcn hb (hB.cell 0) (hB.cell 1) (fun i x hx => (Own.cellAt ho (u64s_at hx)).1) hI hll⟩
  | run p v rs _ hr h0 hx => exact ⟨_, _, _, rfl, fun w => ahead_rc_wr _ w, fun w => method_rc_wr _ w, fun t s w => call_rc_wr _ t s w, fun B b bs w hp hI hl => by
      have hB : Blk w p 140 [v] := hp.all (Go.Roar.B p 140 [v]) (by simp [RC])
      have ho : Own w 2 178 v rs.length (ivs rs) := hp.all (O 2 178 v rs.length (ivs rs)) (by simp [RC])
      have hlen := rg_length rs 0 hr (fun _ _ => Nat.zero_le _) (by omega)
      obtain ⟨g, c, rfl, _, _⟩ := Own.shape ho (List.length_pos_iff.2 h0)
      have e : bodyOf (runsOf l) 2 = enc16 rs.length ++ (runNums rs).flatMap enc16 := by unfold bodyOf; rw [if_neg (by decide), if_neg (by decide), ← hx, runsOf_back hr]
      rw [e]
      exact rcWrite_any p g c rs B b bs w (List.length_pos_iff.2 h0) (by omega) hr (hB.cell 0) (fun i r hi => ⟨(Own.cellAt ho (ivs_at hi).1).1, (Own.cellAt ho (ivs_at hi).2).1⟩) hI hl⟩
end Go.Proofs
