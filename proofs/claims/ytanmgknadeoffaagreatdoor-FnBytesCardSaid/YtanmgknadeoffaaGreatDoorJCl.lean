/-
  clone of a container.
  roaringArray.appendContainer, appendCopy, appendCopyMany.
  roaringArray.appendCopyMany: containers of another set, copied behind those of this one.
  roaring.Or of a set and the empty set.
  impl.told of a set in memory; impl.Or on a small set, laws.some.
-/
import Derived.Test.YtanmgknadeoffaaGreatDoorKEf
import Derived.Test.YtanmgknadeoffaaGreatDoorKAc
import Derived.Test.YtanmgknadeoffaaGreatDoorKRop
import Derived.Test.YtanmgknadeoffaaGreatDoorJMd
import Derived.Test.YtanmgknadeoffaaGreatDoorKTd
import Derived.Deep.OwnRows
import Derived.BigRegion
import Derived.WalkMore
namespace Go.Roar
open Go.RowKit Go.Proofs
theorem splice_all {α : Type} (xs ys : List α) (h : xs.length = ys.length) : splice xs 0 ys = ys := by
  simp [splice, h]
theorem SS.madeO {w0 w : World} {F0 : List Nat} {L : List HA} (h : SS w0 F0 w L) (e : TypeId) (zs : Array Value) (n : Nat) (hn : zs.size = n) (hm : n ≤ maxLen) : SS w0 F0 (w.alloc (.cells zs e)) (O 1 e (.slice (some ⟨w.heap.size, 0, none⟩) n n) n zs.toList :: L) := by
  refine h.join (M := [O 1 e (.slice (some ⟨w.heap.size, 0, none⟩) n n) n zs.toList]) ⟨⟨fun A hA => ?_, by simp [O]⟩, fun b hb => .inr (by simp [O] at hb; omega), (Kept.refl _ _).alloc _⟩
  simp only [List.mem_cons, List.not_mem_nil, or_false] at hA
  subst hA
  exact ⟨by simp [hn], .inr ⟨w.heap.size, 0, [], rfl, by simp, hm, by rw [List.append_nil]; exact Blk.new w e zs.toList⟩⟩
end Go.Roar
namespace Go.Proofs
open Go.RowKit Go.Roar

set_option maxRecDepth 100000 in
set_option maxHeartbeats 2000000 in
theorem acClone_any (p : Nat) (v : Value) (l : List Nat) (w : World) (h0 : l ≠ []) (hl : l.length ≤ 65536) (h : Parts w (AC p v l)) :
    Calls Tryz.prog 127 #[.pointer (some ⟨p, 0, none⟩)] w fun ed w' => ∃ q v', ed = .returned (.iface 84 (.pointer (some ⟨q, 0, none⟩))) ∧ SS w [] w' (AC q v' l) := by
  obtain ⟨iU, zu1, zu2, zu3, zu4⟩ := info_parts infoU16
  have ho : Own w 1 44 v l.length (u16s l) := h.all (O 1 44 v l.length (u16s l)) (by simp [AC])
  have hB : Blk w p 147 [v] := h.all (B p 147 [v]) (by simp [AC])
  obtain ⟨g, c, rfl, _, _⟩ := Own.shape ho (List.length_pos_iff.2 h0)
  have hpos := List.length_pos_iff.2 h0
  have c0 := hB.cell 0
  have Hs := Lib.hid (fun (W : World) (k : Mild w W) => Own.src0 (ho.kept k (fun _ _ => id)) (u16s l) (fun _ _ h => h))
  clear ho hB h h0
  generalize hn : l.length = n at *
  have Hn := Lib.hid hn
  clear hn
  go_enter Tryz.func127, Tryz.ntmps127
  go_wp2_with (first
    | (at_make; refine wpList_make_ss rfl (.tmp 8) (.tmp 8) 75 rfl 44 iU (.int .u16 0) 1 undU16s zu1 zu2 zu3 w [] [] (SS.nothing w) .i64 .i64 _ _ n rfl rfl rfl rfl (by rw [zu4]; omega) (by unfold maxLen; omega) ?_; intro g2 w2 S2; have hz : ((madeCells (Value.int IntKind.u16 (0 : Int)).cells (n * 1)).toList).length = n := (by simp [size_madeCells]); generalize (madeCells (Value.int IntKind.u16 (0 : Int)).cells (n * 1)).toList = zs at S2 hz; have S3 := Lib.hid (S2.new 147 [.slice (some ⟨g2, 0, none⟩) n n]); have Hz := Lib.hid hz; clear S2 hz; have km := S3.out.mild; have b0 := km.cell2 id c0; have b1 := S3.out.cell 0 rfl 0 rfl; clear km)
    | (refine wpList_copy_ss rfl (.tmp 12) (.tmp 17) 75 75 rfl 44 1 undU16s szU16 w [] [B w2.heap.size 147 [.slice (some ⟨g2, 0, none⟩) n n]] [] g2 n n zs S3.out.drew (some ⟨g2, 0, none⟩) (some ⟨g, 0, none⟩) n n n c ?_ ?_ 0 n (u16s l) ?_ ?_ ?_ ?_ ?_ ?_; rfl; rfl; exact (Nat.min_self n).symm; (simp [Hn.out]); exact (fun h0 => ⟨rfl, _, rfl, fun j u hu => Hs.out _ S3.out.drew.mild j u hu⟩); (simp [Hn.out, Hz.out]); exact u16s_one l; intro w4 S4; have S5 := Lib.hid S4; clear S4)
    | (refine wp_region_tail 7 (by kernel_rfl) (by decide +kernel) ?_; simp only [List.take_succ_cons, List.take_zero, List.drop_succ_cons, List.drop_zero]; repeat still_step; try (refine wpStill_nil ?_; show wpList _ _ _ _ _ _))
    | fail)
  go_ret
  have S6 := S5.out
  rw [splice_all _ _ (by rw [Hz.out, u16s_length, Hn.out])] at S6
  refine ⟨w2.heap.size, .slice (some ⟨g2, 0, none⟩) n n, rfl, ?_⟩
  unfold AC
  rw [Hn.out]
  exact S6

set_option maxRecDepth 100000 in
set_option maxHeartbeats 2000000 in
theorem copyIv_any (g c : Nat) (rs : List (Nat × Nat)) (w : World) (hl : rs.length ≤ 65536) (h0 : 0 < rs.length) (ho : Own w 2 178 (.slice (some ⟨g, 0, none⟩) rs.length c) rs.length (ivs rs)) :
    Calls Tryz.prog 185 #[.slice (some ⟨g, 0, none⟩) rs.length c] w fun ed w' => ∃ q v', ed = .returned (.pointer (some ⟨q, 0, none⟩)) ∧ SS w [] w' (RC q v' rs) := by
  obtain ⟨iU, zu1, zu2, zu3, zu4⟩ := info_parts infoIv
  have Hs := Lib.hid (fun (W : World) (k : Mild w W) => Own.src0 (ho.kept k (fun _ _ => id)) (ivs rs) (fun _ _ h => h))
  clear ho
  generalize hn : rs.length = n at *
  have Hn := Lib.hid hn
  clear hn
  go_enter Tryz.func185, Tryz.ntmps185
  go_wp2_with (first
    | (at_make; refine wpList_make_ss rfl (.tmp 5) (.tmp 5) 137 rfl 178 iU (.agg #[.int .u16 (0 : Int), .int .u16 (0 : Int)]) 2 undIvs zu1 zu2 zu3 w [] [] (SS.nothing w) .i64 .i64 _ _ n rfl rfl rfl rfl (by rw [zu4]; omega) (by unfold maxLen; omega) ?_; intro g2 w2 S2; have hz : ((madeCells (Value.agg #[.int .u16 (0 : Int), .int .u16 (0 : Int)]).cells (n * 2)).toList).length = n * 2 := ((S2.get (A := O 2 178 (.slice (some ⟨g2, 0, none⟩) n n) n _) (List.mem_cons_self)).1); generalize (madeCells (Value.agg #[.int .u16 (0 : Int), .int .u16 (0 : Int)]).cells (n * 2)).toList = zs at S2 hz; have S3 := Lib.hid (S2.new 140 [.slice (some ⟨g2, 0, none⟩) n n]); have Hz := Lib.hid hz; clear S2 hz; have b1 := S3.out.cell 0 rfl 0 rfl)
    | (refine wpList_copy_ss rfl (.tmp 12) (.tmp 13) 137 137 rfl 178 2 undIvs szIv w [] [B w2.heap.size 140 [.slice (some ⟨g2, 0, none⟩) n n]] [] g2 n n zs S3.out (some ⟨g2, 0, none⟩) (some ⟨g, 0, none⟩) n n n c ?_ ?_ 0 n (ivs rs) ?_ ?_ ?_ ?_ ?_ ?_; rfl; rfl; exact (Nat.min_self n).symm; (simp [Hn.out]); exact (fun h0 => ⟨rfl, _, rfl, fun j u hu => Hs.out _ S3.out.mild j u hu⟩); (simp [Hn.out, Hz.out]); exact ivs_one rs; intro w4 S4; have S5 := Lib.hid S4; clear S4)
    | fail)
  go_ret
  have S6 := S5.out
  rw [splice_all _ _ (by rw [Hz.out, ivs_length, Hn.out])] at S6
  refine ⟨w2.heap.size, .slice (some ⟨g2, 0, none⟩) n n, rfl, ?_⟩
  unfold RC
  rw [Hn.out]
  exact S6
theorem rcClone_any (p : Nat) (v : Value) (rs : List (Nat × Nat)) (w : World) (hr : RgOK 65536 rs) (h0 : rs ≠ []) (h : Parts w (RC p v rs)) :
    Calls Tryz.prog 176 #[.pointer (some ⟨p, 0, none⟩)] w fun ed w' => ∃ q v', ed = .returned (.iface 141 (.pointer (some ⟨q, 0, none⟩))) ∧ SS w [] w' (RC q v' rs) := by
  have hlen := rg_length (n := 65536) rs 0 hr (by simp) (by omega)
  have ho : Own w 2 178 v rs.length (ivs rs) := h.all (O 2 178 v rs.length (ivs rs)) (by simp [RC])
  have hB : Blk w p 140 [v] := h.all (B p 140 [v]) (by simp [RC])
  obtain ⟨g, c, rfl, _, _⟩ := Own.shape ho (List.length_pos_iff.2 h0)
  have CI := Lib.hid (copyIv_any g c rs w (by omega) (List.length_pos_iff.2 h0) ho)
  have c0 := hB.cell 0
  clear hr h0 h ho hB
  generalize rs.length = n at *
  go_enter Tryz.func176, Tryz.ntmps176
  go_wp2_with (first
    | (go_at_call 185; refine CI.out.mono ?_; rintro ed w1 ⟨q, v', rfl, hS⟩; have S1 := Lib.hid hS; clear hS)
    | fail)
  go_ret
  exact ⟨q, v', rfl, S1.out⟩

theorem szU64b : (Tryz.prog.info? 28).map (·.size) = some 1 := by kernel_rfl
theorem u64s_one (l : List Nat) : ∀ v ∈ u64s l, v.oneCell' = true := by
  intro v hv
  unfold u64s at hv
  obtain ⟨x, _, rfl⟩ := List.mem_map.1 hv
  rfl

set_option maxRecDepth 100000 in
set_option maxHeartbeats 2000000 in
theorem bcClone_any (p g c : Nat) (ws l : List Nat) (w : World) (hl : ws.length = 1024) (h : Parts w (BC p l.length (.slice (some ⟨g, 0, none⟩) 1024 c) ws)) :
    Calls Tryz.prog 184 #[.pointer (some ⟨p, 0, none⟩)] w fun ed w' => ∃ q g', ed = .returned (.iface 85 (.pointer (some ⟨q, 0, none⟩))) ∧ SS w [] w' (BC q l.length (.slice (some ⟨g', 0, none⟩) 1024 1024) ws) := by
  obtain ⟨zs, hz, hmk⟩ : ∃ zs : Array Value, zs.size = 1024 ∧ ∀ W : World, (Instr.makeSlice 142 (.int .i64 1024) (.int .i64 1024)).run Tryz.prog W = .ok (.slice (some ⟨W.heap.size, 0, none⟩) 1024 1024) (W.alloc (.cells zs 28)) :=
    ⟨madeCells #[.int .u64 0] 1024, by simp [size_madeCells], fun W => run_make_row' (P := Tryz.prog) 142 28 (.int .u64 0) 8 undU64sb infoU64b rfl .i64 .i64 1024 (by decide) (by decide) W⟩
  have hB : Blk w p 145 [.int .i64 (l.length : Int), .slice (some ⟨g, 0, none⟩) 1024 c] := h.all (B p 145 [.int .i64 (l.length : Int), .slice (some ⟨g, 0, none⟩) 1024 c]) (by simp [BC])
  have ho : Own w 1 28 (.slice (some ⟨g, 0, none⟩) 1024 c) 1024 (u64s ws) := h.all (O 1 28 (.slice (some ⟨g, 0, none⟩) 1024 c) 1024 (u64s ws)) (by simp [BC])
  have c0 := hB.cell 0
  have c1 := hB.cell 1
  simp only [List.getElem?_cons_zero, List.getElem?_cons_succ] at c0 c1
  have Hs := Lib.hid (fun (W : World) (k : Mild w W) => Own.src0 (ho.kept k (fun _ _ => id)) (u64s ws) (fun _ _ h => h))
  have Hl := Lib.hid hl
  clear ho hB h hl
  generalize l.length = n at *
  go_enter Tryz.func184, Tryz.ntmps184
  go_wp2_with fail
  have m1 : Mild w (w.alloc (Obj.cells #[Value.int IntKind.i64 0, Value.slice none 0 0] 145)) := (Kept.refl _ _).alloc _
  have m2 : Mild w (w.alloc (Obj.cells zs 28)) := (Kept.refl _ _).alloc _
  have Hz := Lib.hid hz
  clear hz
  have d0 := m1.cell2 id c0
  have d1 := m1.cell2 id c1
  have d2 := (m1.alloc (Obj.cells zs 28)).cell2 id c0
  have d3 := (m1.alloc (Obj.cells zs 28)).cell2 id c1
  have d4 := m2.cell2 id c0
  have d5 := m2.cell2 id c1
  have d6 := (m2.alloc (Obj.cells #[Value.int IntKind.i64 0, Value.slice none 0 0] 145)).cell2 id c0
  have d7 := (m2.alloc (Obj.cells #[Value.int IntKind.i64 0, Value.slice none 0 0] 145)).cell2 id c1
  go_region
  · have SA : Hid (SS w [] (((w.alloc (Obj.cells zs 28)).alloc (Obj.cells #[Value.int IntKind.i64 (n : Int), Value.slice (some ⟨w.heap.size, 0, none⟩) 1024 1024] 145)).drew) [B (w.heap.size + 1) 145 [.int .i64 (n : Int), .slice (some ⟨w.heap.size, 0, none⟩) 1024 1024], O 1 28 (.slice (some ⟨w.heap.size, 0, none⟩) 1024 1024) 1024 zs.toList]) := Lib.hid (by
      have := ((SS.nothing w).madeO 28 zs 1024 Hz.out (by unfold maxLen; omega)).new 145 [.int .i64 (n : Int), .slice (some ⟨w.heap.size, 0, none⟩) 1024 1024]
      simp only [World.size_alloc] at this
      exact this.drew)
    generalize (((w.alloc (Obj.cells zs 28)).alloc (Obj.cells #[Value.int IntKind.i64 (n : Int), Value.slice (some ⟨w.heap.size, 0, none⟩) 1024 1024] 145)).drew) = W2 at *
    generalize w.heap.size + 1 = H1 at *
    generalize w.heap.size = H2 at *
    clear d0 d1 d2 d3 d4 d5 d6 d7 m1 m2
    have km := SA.out.mild
    have b0 := km.cell2 id c1
    have b1 := SA.out.cell 0 rfl 1 rfl
    clear km
    go_wp2_with (first
      | (refine wpList_copy_ss rfl (.tmp 16) (.tmp 21) 142 142 rfl 28 1 undU64sb szU64b w [] [B H1 145 [.int .i64 (n : Int), .slice (some ⟨H2, 0, none⟩) 1024 1024]] [] H2 1024 1024 zs.toList SA.out.drew (some ⟨H2, 0, none⟩) (some ⟨g, 0, none⟩) 1024 1024 1024 c ?_ ?_ 0 1024 (u64s ws) ?_ ?_ ?_ ?_ ?_ ?_; rfl; rfl; exact (Nat.min_self 1024).symm; (simp [Hl.out]); exact (fun h0 => ⟨rfl, _, rfl, fun j u hu => Hs.out _ SA.out.drew.mild j u hu⟩); (simp [Hl.out, Hz.out]); exact u64s_one ws; intro w4 S4; have S5 := Lib.hid S4; clear S4)
      | (refine wp_region_tail 7 (by kernel_rfl) (by decide +kernel) ?_; simp only [List.take_succ_cons, List.take_zero, List.drop_succ_cons, List.drop_zero]; repeat still_step; try (refine wpStill_nil ?_; show wpList _ _ _ _ _ _))
      | fail)
    go_ret
    have S6 := S5.out
    rw [splice_all _ _ (by rw [u64s_length, Hl.out, Array.length_toList, Hz.out])] at S6
    exact ⟨H1, H2, rfl, S6⟩
  · have SA : Hid (SS w [] (((w.alloc (Obj.cells #[Value.int IntKind.i64 (n : Int), Value.slice (some ⟨w.heap.size + 1, 0, none⟩) 1024 1024] 145)).alloc (Obj.cells zs 28)).drew) [B (w.heap.size) 145 [.int .i64 (n : Int), .slice (some ⟨w.heap.size + 1, 0, none⟩) 1024 1024], O 1 28 (.slice (some ⟨w.heap.size + 1, 0, none⟩) 1024 1024) 1024 zs.toList]) := Lib.hid (by
      have := ((SS.nothing w).new 145 [.int .i64 (n : Int), .slice (some ⟨w.heap.size + 1, 0, none⟩) 1024 1024]).madeO 28 zs 1024 Hz.out (by unfold maxLen; omega)
      simp only [World.size_alloc] at this
      exact this.swap.drew)
    generalize (((w.alloc (Obj.cells #[Value.int IntKind.i64 (n : Int), Value.slice (some ⟨w.heap.size + 1, 0, none⟩) 1024 1024] 145)).alloc (Obj.cells zs 28)).drew) = W2 at *
    generalize w.heap.size + 1 = H2 at *
    generalize w.heap.size = H1 at *
    clear d0 d1 d2 d3 d4 d5 d6 d7 m1 m2
    have km := SA.out.mild
    have b0 := km.cell2 id c1
    have b1 := SA.out.cell 0 rfl 1 rfl
    clear km
    go_wp2_with (first
      | (refine wpList_copy_ss rfl (.tmp 16) (.tmp 21) 142 142 rfl 28 1 undU64sb szU64b w [] [B H1 145 [.int .i64 (n : Int), .slice (some ⟨H2, 0, none⟩) 1024 1024]] [] H2 1024 1024 zs.toList SA.out.drew (some ⟨H2, 0, none⟩) (some ⟨g, 0, none⟩) 1024 1024 1024 c ?_ ?_ 0 1024 (u64s ws) ?_ ?_ ?_ ?_ ?_ ?_; rfl; rfl; exact (Nat.min_self 1024).symm; (simp [Hl.out]); exact (fun h0 => ⟨rfl, _, rfl, fun j u hu => Hs.out _ SA.out.drew.mild j u hu⟩); (simp [Hl.out, Hz.out]); exact u64s_one ws; intro w4 S4; have S5 := Lib.hid S4; clear S4)
      | (refine wp_region_tail 7 (by kernel_rfl) (by decide +kernel) ?_; simp only [List.take_succ_cons, List.take_zero, List.drop_succ_cons, List.drop_zero]; repeat still_step; try (refine wpStill_nil ?_; show wpList _ _ _ _ _ _))
      | fail)
    go_ret
    have S6 := S5.out
    rw [splice_all _ _ (by rw [u64s_length, Hl.out, Array.length_toList, Hz.out])] at S6
    exact ⟨H1, H2, rfl, S6⟩
end Go.Proofs

namespace Go.Proofs
open Go.RowKit Go.Roar

set_option maxRecDepth 100000 in
set_option maxHeartbeats 4000000 in
theorem appendCont_any (p : Nat) (t : TypeId) (vk vc vw : Value) (ks : List Nat) (cs : List Value) (key : Nat) (ct : TypeId) (cv : Value) (w : World) (hlen : ks.length ≤ 65536) (h : Parts w (RAL p t vk vc vw ks cs)) :
    Calls Tryz.prog 56 #[.pointer (some ⟨p, 0, none⟩), .int .u16 (key : Int), .iface ct cv, .bool false] w fun e w' => e = .returned (.tuple #[]) ∧
      ∃ vk' vc' vw', SS w (foot (RAL p t vk vc vw ks cs)) w' (RAL p t vk' vc' vw' (ks ++ [key]) (cs ++ [.iface ct cv])) := by
  obtain ⟨iU, yu1, yu2, yu3, yu4⟩ := info_parts infoU16
  obtain ⟨iC, yc1, yc2, yc3, yc4⟩ := info_parts infoCont
  obtain ⟨iB, yb1, yb2, yb3, yb4⟩ := info_parts infoBool
  have S0 := SS.init h
  generalize foot (RAL p t vk vc vw ks cs) = F at *
  clear h
  unfold RAL at S0
  have HS0 := Lib.hid S0
  have a0 := S0.cell 0 rfl 0 rfl
  clear S0
  generalize hn : ks.length = n at *
  have Hn := Lib.hid hn
  clear hn
  go_enter Tryz.func56, Tryz.ntmps56
  go_wp2_with (first
    | (at_builtin; refine wpList_append_ss rfl (.tmp 12) (.tmp 14) 75 rfl 44 iU (.int .u16 0) 1 2 undU16s yu1 yu2 yu3 yu4 rfl (by decide) w F [B p t [vk, vc, vw, .bool false]] [O 1 83 vc n cs, O 1 4 vw n (List.replicate n (.bool false))] vk n (u16s ks) rfl (SS.alloc HS0.out _) ⟨w.heap.size, 0, none⟩ 1 1 [.int .u16 (key : Int)] rfl rfl (Blk.news (Blk.new _ _ _)) (by simp [Value.oneCell']) (by unfold maxLen; omega) (by omega) ?_; intro v1 w1 S1; obtain ⟨g1, c1, rfl, _, _⟩ := Own.shape (S1.get (A := O 1 44 v1 (n + 1) (u16s ks ++ [.int .u16 (key : Int)])) (by simp)) (by omega); have f1 := S1.cell 0 rfl 0 rfl; have f2 := S1.free 0 rfl 0; have T1 : Hid (SS w F (w1.setCell ⟨p, 0, none⟩ (.slice (some ⟨g1, 0, none⟩) (n + 1) c1)) [B p t [.slice (some ⟨g1, 0, none⟩) (n + 1) c1, vc, vw, .bool false], O 1 44 (.slice (some ⟨g1, 0, none⟩) (n + 1) c1) (n + 1) (u16s ks ++ [.int .u16 (key : Int)]), O 1 83 vc n cs, O 1 4 vw n (List.replicate n (.bool false))]) := Lib.hid (SS.store (L := []) S1 0 (.slice (some ⟨g1, 0, none⟩) (n + 1) c1)); clear S1; have f3 := T1.out.cell 0 rfl 1 rfl)
    | (at_builtin; refine wpList_append_ss rfl (.tmp 22) (.tmp 24) 76 rfl 83 iC .nilIface 1 16 undConts yc1 yc2 yc3 yc4 rfl (by decide) w F [B p t [.slice (some ⟨g1, 0, none⟩) (n + 1) c1, vc, vw, .bool false], O 1 44 (.slice (some ⟨g1, 0, none⟩) (n + 1) c1) (n + 1) (u16s ks ++ [.int .u16 (key : Int)])] [O 1 4 vw n (List.replicate n (.bool false))] vc n cs rfl (SS.alloc T1.out _) ⟨_, 0, none⟩ 1 1 [.iface ct cv] rfl rfl (new_one _ _ _ _ (by simp)) (by simp [Value.oneCell']) (by unfold maxLen; omega) (by omega) ?_; intro v2 w2 S2; obtain ⟨g2, c2, rfl, _, _⟩ := Own.shape (S2.get (A := O 1 83 v2 (n + 1) (cs ++ [.iface ct cv])) (by simp)) (by omega); have f4 := S2.cell 0 rfl 1 rfl; have f5 := S2.free 0 rfl 1; have T2 : Hid (SS w F (w2.setCell ⟨p, 1, none⟩ (.slice (some ⟨g2, 0, none⟩) (n + 1) c2)) [B p t [.slice (some ⟨g1, 0, none⟩) (n + 1) c1, .slice (some ⟨g2, 0, none⟩) (n + 1) c2, vw, .bool false], O 1 44 (.slice (some ⟨g1, 0, none⟩) (n + 1) c1) (n + 1) (u16s ks ++ [.int .u16 (key : Int)]), O 1 83 (.slice (some ⟨g2, 0, none⟩) (n + 1) c2) (n + 1) (cs ++ [.iface ct cv]), O 1 4 vw n (List.replicate n (.bool false))]) := Lib.hid (SS.store (L := []) S2 1 (.slice (some ⟨g2, 0, none⟩) (n + 1) c2)); clear S2; have f6 := T2.out.cell 0 rfl 2 rfl)
    | (at_builtin; refine wpList_append_ss rfl (.tmp 32) (.tmp 34) 77 rfl 4 iB (.bool false) 1 1 undBools yb1 yb2 yb3 yb4 rfl (by decide) w F [B p t [.slice (some ⟨g1, 0, none⟩) (n + 1) c1, .slice (some ⟨g2, 0, none⟩) (n + 1) c2, vw, .bool false], O 1 44 (.slice (some ⟨g1, 0, none⟩) (n + 1) c1) (n + 1) (u16s ks ++ [.int .u16 (key : Int)]), O 1 83 (.slice (some ⟨g2, 0, none⟩) (n + 1) c2) (n + 1) (cs ++ [.iface ct cv])] [] vw n (List.replicate n (.bool false)) rfl (SS.alloc T2.out _) ⟨_, 0, none⟩ 1 1 [.bool false] rfl rfl (new_one _ _ _ _ (by simp)) (by simp [Value.oneCell']) (by unfold maxLen; omega) (by omega) ?_; intro v3 w3 S3; obtain ⟨g3, c3, rfl, _, _⟩ := Own.shape (S3.get (A := O 1 4 v3 (n + 1) (List.replicate n (.bool false) ++ [.bool false])) (by simp)) (by omega); have f7 := S3.cell 0 rfl 2 rfl; have f8 := S3.free 0 rfl 2; have T3 := Lib.hid (SS.store (L := []) S3 2 (.slice (some ⟨g3, 0, none⟩) (n + 1) c3)); clear S3)
    | fail)
  go_end0
  refine ⟨rfl, .slice (some ⟨g1, 0, none⟩) (n + 1) c1, .slice (some ⟨g2, 0, none⟩) (n + 1) c2, .slice (some ⟨g3, 0, none⟩) (n + 1) c3, ?_⟩
  unfold RAL
  rw [show (ks ++ [key]).length = n + 1 by simp [Hn.out], show u16s (ks ++ [key]) = u16s ks ++ [.int .u16 (key : Int)] by simp [u16s], List.replicate_succ']
  exact T3.out
theorem ahead_ac_clone (a : Addr) (w : World) : (nilAhead 368 84 (.pointer (some a)) "loop.example/pub-g03248/pub/roaring.clone").run Tryz.prog w = .ok (some false) w := by kernel_rfl
theorem method_ac_clone (a : Addr) (w : World) : (method 368 84 (.pointer (some a)) "loop.example/pub-g03248/pub/roaring.clone").run Tryz.prog w = .ok (127, .pointer (some a)) w := by kernel_rfl
theorem call_ac_clone (v : Value) (w : World) : (callFunc 127 #[v]).run Tryz.prog w = .ok (.enter 127 #[v]) w := by kernel_rfl
theorem ahead_bc_clone (a : Addr) (w : World) : (nilAhead 368 85 (.pointer (some a)) "loop.example/pub-g03248/pub/roaring.clone").run Tryz.prog w = .ok (some false) w := by kernel_rfl
theorem method_bc_clone (a : Addr) (w : World) : (method 368 85 (.pointer (some a)) "loop.example/pub-g03248/pub/roaring.clone").run Tryz.prog w = .ok (184, .pointer (some a)) w := by kernel_rfl
theorem call_bc_clone (v : Value) (w : World) : (callFunc 184 #[v]).run Tryz.prog w = .ok (.enter 184 #[v]) w := by kernel_rfl
theorem ahead_rc_clone (a : Addr) (w : World) : (nilAhead 368 141 (.pointer (some a)) "loop.example/pub-g03248/pub/roaring.clone").run Tryz.prog w = .ok (some false) w := by kernel_rfl
theorem method_rc_clone (a : Addr) (w : World) : (method 368 141 (.pointer (some a)) "loop.example/pub-g03248/pub/roaring.clone").run Tryz.prog w = .ok (176, .pointer (some a)) w := by kernel_rfl
theorem call_rc_clone (v : Value) (w : World) : (callFunc 176 #[v]).run Tryz.prog w = .ok (.enter 176 #[v]) w := by kernel_rfl
/-- The method clone of a container. -/
theorem kc_clone {c : Value} {l : List Nat} {k : Nat} {L : List HA} (h : KC c l k L) : ∃ (tt : TypeId) (a : Addr) (fn : Nat), c = .iface tt (.pointer (some a)) ∧
    (∀ w, (nilAhead 368 tt (.pointer (some a)) "loop.example/pub-g03248/pub/roaring.clone").run Tryz.prog w = .ok (some false) w) ∧
    (∀ w, (method 368 tt (.pointer (some a)) "loop.example/pub-g03248/pub/roaring.clone").run Tryz.prog w = .ok (fn, .pointer (some a)) w) ∧
    (∀ (w : World), (callFunc fn #[.pointer (some a)]).run Tryz.prog w = .ok (.enter fn #[.pointer (some a)]) w) ∧
    ∀ (w : World), Parts w L → Calls Tryz.prog fn #[.pointer (some a)] w fun ed w' => ∃ t v L', ed = .returned (.iface t v) ∧ KC (.iface t v) l k L' ∧ SS w [] w' L' := by
  cases h with
  | arr p v _ hs hb h0 hn => exact ⟨_, _, _, rfl, fun w => ahead_ac_clone _ w, fun w => method_ac_clone _ w, fun w => call_ac_clone _ w, fun w hp => by
      refine (acClone_any p v l w h0 (by omega) hp).mono ?_
      rintro ed w' ⟨q, v', rfl, hS⟩
      exact ⟨_, _, _, rfl, KC.arr q v' l hs hb h0 hn, hS⟩⟩
  | bmp p g c ws _ hl hb h0 hx => exact ⟨_, _, _, rfl, fun w => ahead_bc_clone _ w, fun w => method_bc_clone _ w, fun w => call_bc_clone _ w, fun w hp => by
      refine (bcClone_any p g c ws l w hl hp).mono ?_
      rintro ed w' ⟨q, g', rfl, hS⟩
      exact ⟨_, _, _, rfl, KC.bmp q g' 1024 ws l hl hb h0 hx, hS⟩⟩
  | run p v rs _ hr h0 hx => exact ⟨_, _, _, rfl, fun w => ahead_rc_clone _ w, fun w => method_rc_clone _ w, fun w => call_rc_clone _ w, fun w hp => by
      refine (rcClone_any p v rs w hr h0 hp).mono ?_
      rintro ed w' ⟨q, v', rfl, hS⟩
      exact ⟨_, _, _, rfl, KC.run q v' rs l hr h0 hx, hS⟩⟩
theorem needsCow_any (p : Nat) (g n c i : Nat) (b : Bool) (w : World) (h0 : w.cell? ⟨p, 2, none⟩ = some (.slice (some ⟨g, 0, none⟩) n c)) (hi : i < n) (h1 : w.cell? ⟨g, i, none⟩ = some (.bool b)) :
    Calls Tryz.prog 72 #[.pointer (some ⟨p, 0, none⟩), .int .i64 (i : Int)] w fun e w' => e = .returned (.bool b) ∧ w = w' := by
  go_enter Tryz.func72, Tryz.ntmps72
  go_wp2
  go_ret
  exact ⟨rfl, rfl⟩

set_option maxRecDepth 100000 in
set_option maxHeartbeats 4000000 in
/-- One container of another set, copied behind the containers of this one. -/
theorem appendCopy_any (p : Nat) (t : TypeId) (vk vc vw : Value) (ks : List Nat) (cs : List Value) (gk ck gc cc gw cw n i key : Nat) (x : Kon) (w : World) (hlen : ks.length ≤ 65536) (h : Parts w (RAL p t vk vc vw ks cs)) (hi : i < n)
    (h1 : w.cell? ⟨gk, i, none⟩ = some (.int .u16 (key : Int))) (h2 : w.cell? ⟨gc, i, none⟩ = some x.v) (h3 : w.cell? ⟨gw, i, none⟩ = some (.bool false)) (hk : KRepK w x.v x.l x.k x.F) :
    Calls Tryz.prog 55 #[.pointer (some ⟨p, 0, none⟩), .agg #[.slice (some ⟨gk, 0, none⟩) n ck, .slice (some ⟨gc, 0, none⟩) n cc, .slice (some ⟨gw, 0, none⟩) n cw, .bool false], .int .i64 (i : Int)] w fun e w' => e = .returned (.tuple #[]) ∧
      ∃ vk' vc' vw' t4 v4 L4, KC (.iface t4 v4) x.l x.k L4 ∧ SS w (foot (RAL p t vk vc vw ks cs)) w' (L4 ++ RAL p t vk' vc' vw' (ks ++ [key]) (cs ++ [.iface t4 v4])) := by
  obtain ⟨L, hK, hP, _⟩ := hk
  obtain ⟨tt, ad, fn, hv, n1, n2, n3, hCL⟩ := kc_clone hK
  rw [hv] at h2
  have m1 : Mild w (w.alloc (.cells #[.slice (some ⟨gk, 0, none⟩) n ck, .slice (some ⟨gc, 0, none⟩) n cc, .slice (some ⟨gw, 0, none⟩) n cw, .bool false] 79)) := (Kept.refl _ _).alloc _
  have hB := Blk.new w 79 [.slice (some ⟨gk, 0, none⟩) n ck, .slice (some ⟨gc, 0, none⟩) n cc, .slice (some ⟨gw, 0, none⟩) n cw, .bool false]
  have S0 := (SS.init h).alloc (.cells #[.slice (some ⟨gk, 0, none⟩) n ck, .slice (some ⟨gc, 0, none⟩) n cc, .slice (some ⟨gw, 0, none⟩) n cw, .bool false] 79)
  have hP1 : Parts (w.alloc (.cells #[.slice (some ⟨gk, 0, none⟩) n ck, .slice (some ⟨gc, 0, none⟩) n cc, .slice (some ⟨gw, 0, none⟩) n cw, .bool false] 79)).drew L := Parts.kept (S := fun _ => False) hP m1.drew (fun _ _ => id)
  have HCL := Lib.hid (hCL _ hP1)
  have c0 := (SS.right (L := []) S0).cell 0 rfl 3 rfl
  have hB' : Blk (w.alloc (.cells #[.slice (some ⟨gk, 0, none⟩) n ck, .slice (some ⟨gc, 0, none⟩) n cc, .slice (some ⟨gw, 0, none⟩) n cw, .bool false] 79)) w.heap.size 79 [.slice (some ⟨gk, 0, none⟩) n ck, .slice (some ⟨gc, 0, none⟩) n cc, .slice (some ⟨gw, 0, none⟩) n cw, .bool false] := hB
  have d0 := hB'.cell 0
  have d1 := hB'.cell 1
  have d2 := hB'.cell 2
  simp only [List.getElem?_cons_zero, List.getElem?_cons_succ] at d0 d1 d2
  have e1 := m1.cell2 id h1
  have e2 := m1.cell2 id h2
  have e3 := m1.cell2 id h3
  have HS0 := Lib.hid S0
  have HB := Lib.hid hB'
  clear S0 hB hB' hP hP1 h hK hCL hv
  go_enter Tryz.func55, Tryz.ntmps55
  go_upto_region 3 with (first
    | (go_at_call 72; refine (needsCow_any _ gw n cw i false _ d2 hi e3).mono ?_; rintro ed w1 ⟨rfl, rfl⟩)
    | fail)
  go_region_with (first
    | (go_at_call 56; (with_reducible refine (appendCont_any p t vk vc vw ks cs key t4 v4 _ hlen S4.out.right.sep).mono ?_); rintro ed w5 ⟨rfl, vk5, vc5, vw5, hS5⟩; have S5 := Lib.hid (((S4.out.perm List.perm_append_comm).frame hS5).perm List.perm_append_comm); clear hS5)
    | ((with_reducible refine HCL.out.mono ?_); rintro ed w4 ⟨t4, v4, L4, rfl, hK4, hS4⟩; have HK4 := Lib.hid hK4; have S4 := Lib.hid (HS0.out.drew.join hS4); have m4 := hS4.mild; have b0 := m4.cell2 id d0; have b1 := m4.cell2 id d1; have b2 := m4.cell2 id e1; have b3 := m4.cell2 id e2; clear hK4 hS4 m4)
    | fail)
  all_goals
    go_wp2
    go_end0
    exact ⟨rfl, vk5, vc5, vw5, t4, v4, L4, HK4.out, S5.out⟩
end Go.Proofs

namespace Go.Roar
open Go.RowKit Go.Proofs
/-- What a container tells: its key, its numbers, its kind. -/
def kon3 (x : Kon) : Nat × List Nat × Nat := (x.key, x.l, x.k)
theorem kon3_ps {a b : List Kon} (h : a.map kon3 = b.map kon3) : psOf a = psOf b := by
  have := congrArg (List.map fun z : Nat × List Nat × Nat => (z.1, z.2.1)) h
  simpa [psOf, kon3, List.map_map, Function.comp_def] using this
theorem kon3_kinds {a b : List Kon} (h : a.map kon3 = b.map kon3) : a.map (·.k) = b.map (·.k) := by
  have := congrArg (List.map fun z : Nat × List Nat × Nat => z.2.2) h
  simpa [kon3, List.map_map, Function.comp_def] using this
/-- A container joins behind the others. -/
theorem bmp_push {w0 wr w' : World} {F : List Nat} {p : Nat} {t : TypeId} {vk vc vw vk' vc' vw' : Value} {q : List Kon} {y : Kon} {L S : List HA} (hF : y.F = foot L) (hK : KC y.v y.l y.k L) (h : SS w0 F wr (BMP p t vk vc vw q ++ S))
    (h2 : SS wr (foot (RAL p t vk vc vw (q.map (·.key)) (q.map (·.v)))) w' (L ++ RAL p t vk' vc' vw' (q.map (·.key) ++ [y.key]) (q.map (·.v) ++ [y.v]))) :
    SS w0 F w' (BMP p t vk' vc' vw' (q ++ [y]) ++ S) := by
  unfold BMP at h ⊢
  rw [List.append_assoc] at h
  have h3 := h.frame h2
  rw [List.append_assoc] at h3
  have h4 := SS.shutK hK h3
  rw [← hF] at h4
  refine h4.perm ?_
  rw [List.map_append, List.map_append, List.map_singleton, List.map_singleton, KAs_append, List.append_assoc]
  refine List.perm_middle.symm.trans (List.Perm.append_left _ ?_)
  rw [List.append_assoc]
  exact List.perm_middle.symm
end Go.Roar
namespace Go.Proofs
open Go.RowKit Go.Roar
set_option maxRecDepth 100000 in
set_option maxHeartbeats 4000000 in
theorem appendMany_any (p p1 : Nat) (t t1 : TypeId) (vk vc vw vk1 vc1 vw1 : Value) (q0 q1 : List Kon) (s : Nat) (w : World) (hs : s ≤ q1.length) (h1 : q1.length ≤ 65536) (h0 : q0.length + q1.length ≤ 65536 + s)
    (h : Parts w (BMP p t vk vc vw q0 ++ BMP p1 t1 vk1 vc1 vw1 q1)) :
    Calls Tryz.prog 58 #[.pointer (some ⟨p, 0, none⟩), .agg #[vk1, vc1, vw1, .bool false], .int .i64 (s : Int), .int .i64 (q1.length : Int)] w fun e w' => e = .returned (.tuple #[]) ∧
      ∃ vk' vc' vw' q', SS w (foot (BMP p t vk vc vw q0 ++ BMP p1 t1 vk1 vc1 vw1 q1)) w' (BMP p t vk' vc' vw' q' ++ BMP p1 t1 vk1 vc1 vw1 q1) ∧ q'.map kon3 = q0.map kon3 ++ (q1.drop s).map kon3 := by
  have hra := RA.of (Parts.left (Parts.right h))
  obtain ⟨Gk, ck, hvk, hgk⟩ := hra.keys.sliceOf
  obtain ⟨Gc, cc, hvc, hgc⟩ := hra.conts.sliceOf
  obtain ⟨Gw, cw, hvw, hgw⟩ := hra.cows.sliceOf
  rw [List.length_map] at hvk hvc hvw hgk hgc hgw
  have S0 : SS w (foot (BMP p t vk vc vw q0 ++ BMP p1 t1 vk1 vc1 vw1 q1)) (w.alloc (.cells #[vk1, vc1, vw1, .bool false] 79)) (BMP p t vk vc vw q0 ++ (BMP p1 t1 vk1 vc1 vw1 q1 ++ [B w.heap.size 79 [vk1, vc1, vw1, .bool false]])) := by
    refine ((SS.init h).new 79 [vk1, vc1, vw1, .bool false]).perm ?_
    rw [← List.append_assoc]
    exact List.perm_append_comm (l₁ := [B w.heap.size 79 [vk1, vc1, vw1, .bool false]])
  have HS0 := Lib.hid S0
  generalize foot (BMP p t vk vc vw q0 ++ BMP p1 t1 vk1 vc1 vw1 q1) = F at *
  have hgk2 : 0 < q1.length → ∃ g, Gk = some ⟨g, 0, none⟩ := fun h => by obtain ⟨g, e, _⟩ := hgk h; exact ⟨g, e⟩
  have hgc2 : 0 < q1.length → ∃ g, Gc = some ⟨g, 0, none⟩ := fun h => by obtain ⟨g, e, _⟩ := hgc h; exact ⟨g, e⟩
  have hgw2 : 0 < q1.length → ∃ g, Gw = some ⟨g, 0, none⟩ := fun h => by obtain ⟨g, e, _⟩ := hgw h; exact ⟨g, e⟩
  subst hvk hvc hvw
  clear hra hgk hgc hgw h S0
  have hbnd : ∀ k : Nat, k ≤ q1.length → q0.length + (k - s) ≤ 65536 + 0 := fun k hk => by omega
  generalize hn : q1.length = n at *
  have Hn := Lib.hid hn
  clear hn
  go_enter Tryz.func58, Tryz.ntmps58
  go_wp2_with fail
  generalize (w.alloc (Obj.cells #[Value.slice Gk n ck, Value.slice Gc n cc, Value.slice Gw n cw, Value.bool false] 79)) = W0 at *
  generalize w.heap.size = H at *
  go_loopw [8] (fun i wr => ∃ (k : Nat) (vk vc vw : Value) (q : List Kon), i = .int .i64 (k : Int) ∧ s ≤ k ∧ k ≤ n ∧ Hid (SS w F wr (BMP p t vk vc vw q ++ (BMP p1 t1 (.slice Gk n ck) (.slice Gc n cc) (.slice Gw n cw) q1 ++ [B H 79 [.slice Gk n ck, .slice Gc n cc, .slice Gw n cw, .bool false]]))) ∧ Hid (q.map kon3 = q0.map kon3 ++ ((q1.take k).drop s).map kon3)) (fun i _ => n - (intOf i).toNat)
  case atStart => exact ⟨s, vk, vc, vw, q0, rfl, Nat.le_refl _, hs, HS0, Lib.hid (by rw [List.drop_take, Nat.sub_self]; simp)⟩
  case round =>
    clear HS0
    obtain ⟨k, vk, vc, vw, q, rfl, hsk, hk, HS, HQ⟩ := hrel
    by_cases hlt : k < n
    · obtain ⟨x, hx⟩ : ∃ x, q1[k]? = some x := ⟨_, List.getElem?_eq_getElem (by rw [Hn.out]; exact hlt)⟩
      obtain ⟨gk, rfl⟩ := hgk2 (by omega)
      obtain ⟨gc, rfl⟩ := hgc2 (by omega)
      obtain ⟨gw, rfl⟩ := hgw2 (by omega)
      have hP := HS.out.sep.right.left
      have hra := RA.of hP.left
      have hBH : Blk wr H 79 [.slice (some ⟨gk, 0, none⟩) n ck, .slice (some ⟨gc, 0, none⟩) n cc, .slice (some ⟨gw, 0, none⟩) n cw, .bool false] := HS.out.sep.right.right.all (B H 79 [.slice (some ⟨gk, 0, none⟩) n ck, .slice (some ⟨gc, 0, none⟩) n cc, .slice (some ⟨gw, 0, none⟩) n cw, .bool false]) (List.mem_singleton.2 rfl)
      have hK : KRepK wr x.v x.l x.k x.F := hP.right.all (KA x.v x.l x.k x.F) (List.mem_map.2 ⟨x, List.mem_of_getElem? hx, rfl⟩)
      have b1 := hra.keys
      have b2 := hra.conts
      have b3 := hra.cows
      rw [List.length_map, Hn.out] at b1 b2 b3
      have e1 := (Own.cellAt b1 (u16s_get (j := k) (x := x.key) (by rw [List.getElem?_map, hx]; rfl))).1
      have e2 := (Own.cellAt b2 (o := k) (v := x.v) (by rw [List.getElem?_map, hx]; rfl)).1
      have e3 := (Own.cellAt b3 (o := k) (v := .bool false) (by rw [List.getElem?_replicate, if_pos hlt])).1
      have hql : q.length = q0.length + (k - s) := by
        have := congrArg List.length HQ.out
        simp only [List.length_map, List.length_append, List.length_drop, List.length_take, Hn.out] at this
        omega
      have AC1 := Lib.hid (appendCopy_any p t vk vc vw (q.map (·.key)) (q.map (·.v)) gk ck gc cc gw cw n k x.key x wr (by rw [List.length_map, hql]; have := hbnd k (by omega); omega) HS.out.sep.left.left hlt e1 e2 e3 hK)
      have d0 := hBH.cell 0
      have d1 := hBH.cell 1
      have d2 := hBH.cell 2
      have d3 := hBH.cell 3
      simp only [List.getElem?_cons_zero, List.getElem?_cons_succ] at d0 d1 d2 d3
      have Hx := Lib.hid hx
      have i0 : (k : Int) < (n : Int) := by omega
      clear hP hra hBH hK b1 b2 b3 e1 e2 e3 hql hx
      go_wp2_with (first
        | (go_at_call 55; (with_reducible refine AC1.out.mono ?_); rintro ed w5 ⟨rfl, vk5, vc5, vw5, t4, v4, L4, hK4, hS5⟩; have HK4 := Lib.hid hK4; have HS5 := Lib.hid hS5; clear hK4 hS5)
        | fail)
      go_roundw
      case rel =>
        have hB := bmp_push (y := ⟨x.key, .iface t4 v4, x.l, x.k, foot L4⟩) rfl HK4.out HS.out HS5.out
        exact ⟨k + 1, vk5, vc5, vw5, _, by go_num, by omega, by omega, Lib.hid hB, Lib.hid (by
          rw [List.map_append, HQ.out, List.take_add_one, Hx.out, List.drop_append_of_le_length (by rw [List.length_take, Hn.out]; omega), List.map_append, List.append_assoc]; rfl)⟩
      case measure => simp only [intOf]; omega
    · obtain rfl : k = n := by omega
      go_wp2
      go_end0
      have hS := HS.out
      rw [← List.append_assoc] at hS
      have hq := HQ.out
      rw [List.take_of_length_le (by rw [Hn.out]; omega)] at hq
      exact ⟨rfl, vk, vc, vw, q, SS.left hS, hq⟩
end Go.Proofs

namespace Go.Proofs
open Go.RowKit Go.Roar
theorem newBm_any (w : World) : Calls Tryz.prog 52 #[] w fun e w' => e = .returned (.pointer (some ⟨w.heap.size, 0, none⟩)) ∧ w' = w.alloc (.cells #[.slice none 0 0, .slice none 0 0, .slice none 0 0, .bool false] 81) := by
  go_enter Tryz.func52, Tryz.ntmps52
  go_wp2
  go_ret
  exact ⟨rfl, rfl⟩

set_option maxRecDepth 100000 in
set_option maxHeartbeats 4000000 in
theorem orEmpty_any (p1 p2 : Nat) (t1 : TypeId) (vk1 vc1 vw1 : Value) (q1 : List Kon) (w : World) (h1 : q1.length ≤ 65536) (h0 : 0 < q1.length) (h : Parts w (BMP p1 t1 vk1 vc1 vw1 q1)) (G2 : Option Addr) (c2' : Nat) (h2 : w.cell? ⟨p2, 0, none⟩ = some (.slice G2 0 c2')) :
    Calls Tryz.prog 37 #[.pointer (some ⟨p1, 0, none⟩), .pointer (some ⟨p2, 0, none⟩)] w fun e w' => ∃ p vk vc vw q', e = .returned (.pointer (some ⟨p, 0, none⟩)) ∧
      SS w (foot (BMP p1 t1 vk1 vc1 vw1 q1)) w' (BMP p 81 vk vc vw q') ∧ q'.map kon3 = q1.map kon3 := by
  have hra := RA.of (Parts.left h)
  obtain ⟨Gk, ck, hvk, _⟩ := hra.keys.sliceOf
  rw [List.length_map] at hvk
  have S0 : SS w (foot (BMP p1 t1 vk1 vc1 vw1 q1)) (w.alloc (.cells #[.slice none 0 0, .slice none 0 0, .slice none 0 0, .bool false] 81)) (BMP w.heap.size 81 (.slice none 0 0) (.slice none 0 0) (.slice none 0 0) [] ++ BMP p1 t1 vk1 vc1 vw1 q1) := by
    have := (((((SS.init h).join (SS.bare w 1 4)).join (SS.bare w 1 83)).join (SS.bare w 1 44))).new 81 [.slice none 0 0, .slice none 0 0, .slice none 0 0, .bool false]
    exact this
  have m1 : Mild w (w.alloc (.cells #[.slice none 0 0, .slice none 0 0, .slice none 0 0, .bool false] 81)) := (Kept.refl _ _).alloc _
  have b0 := m1.cell2 id h2
  have hra1 := RA.of (Parts.left (S0.right.sep))
  have c0 := hra1.k
  have c1 := hra1.c
  have c2 := hra1.w
  obtain ⟨tt, hblk⟩ := hra1.blk
  have c3 := hblk.cell 3
  simp only [List.getElem?_cons_zero, List.getElem?_cons_succ] at c3
  have AM0 := (appendMany_any w.heap.size p1 81 t1 (.slice none 0 0) (.slice none 0 0) (.slice none 0 0) vk1 vc1 vw1 [] q1 0 _ (Nat.zero_le _) h1 (by simpa using h1) S0.drew.sep)
  rw [show ((0 : Nat) : Int) = 0 from rfl] at AM0
  have AM := Lib.hid AM0
  clear AM0
  have HS0 := Lib.hid S0
  rw [hvk] at c0 AM HS0 ⊢
  clear S0 hra hra1 hblk h
  generalize hn : q1.length = n at *
  clear hn
  have n0 : ((0 : Int) == (n : Int)) = false := by rw [beq_eq_false_iff_ne]; omega
  have n1 : ¬ (0 : Int) = (n : Int) := by omega
  go_enter Tryz.func37, Tryz.ntmps37
  go_wp2_with fail
  go_step3
  go_wp2_with (first
    | (go_at_call 52; refine (newBm_any _).mono ?_; rintro ed w1 ⟨rfl, rfl⟩)
    | (go_at_call 53; first | (refine (raSize_any p1 _ n ck _ c0).mono ?_; rintro ed w1 ⟨rfl, rfl⟩) | (refine (raSize_any p2 G2 0 c2' _ b0).mono ?_; rintro ed w1 ⟨rfl, rfl⟩))
    | fail)
  generalize (w.alloc (Obj.cells #[Value.slice none 0 0, Value.slice none 0 0, Value.slice none 0 0, Value.bool false] 81)) = W0 at *
  generalize w.heap.size = H at *
  go_step3
  go_wp2_with fail
  go_loopw [6, 7] (fun i j wr => i = .int .i64 0 ∧ j = .int .i64 0 ∧ W0 = wr) (fun _ _ _ => 0)
  case atStart => exact ⟨rfl, rfl, rfl⟩
  case round =>
    obtain ⟨rfl, rfl, rfl⟩ := hrel
    go_wp2_with (first
      | (refine wp_region_tail 9 (by kernel_rfl) (by decide +kernel) ?_; simp only [List.take_succ_cons, List.take_zero, List.drop_succ_cons, List.drop_zero]; repeat still_step; try (refine wpStill_nil ?_; show wpList _ _ _ _ _ _))
      | (go_at_call 58; (with_reducible refine AM.out.mono ?_); rintro ed w5 ⟨rfl, vk5, vc5, vw5, q5, hS5, hq5⟩; have HS5 := Lib.hid hS5; have HQ5 := Lib.hid hq5; clear hS5 hq5)
      | fail)
    rw [Exit.noGoto_ret]
    go_ret
    exact ⟨H, vk5, vc5, vw5, q5, rfl, SS.left (HS0.out.drew.on HS5.out), by rw [HQ5.out]; simp⟩
end Go.Proofs

namespace Go.Proofs
open Go.RowKit Go.Roar
theorem toldB_any (p : Nat) (t : TypeId) (vk vc vw : Value) (q : List Kon) (s : List (Nat × Nat)) (w : World) (ok : OKP (psOf q)) (h : Parts w (BMP p t vk vc vw q)) (hT : Tab w) (hTs : 1 < w.heap.size) (hs : RgOK 4294967296 s) (he : allN (psOf q) = rgNums s) (hc : rgCard s ≤ 1000000) :
    Calls Tryz.prog 31 #[.pointer (some ⟨p, 0, none⟩)] w fun e w' => ∃ v, e = .returned v ∧ Own w' 2 48 v s.length (rgCells s) ∧ Mild w w' ∧ (∀ b ∈ blkOf v, w.heap.size ≤ b) := by
  have hW := whole_of (H := w.heap.size) h ok hT hTs h.lt
  have hn := allN_sorted ok
  have hl := allN_lt ok
  have hlen : (nums (psOf q)).length ≤ 1000000 := by rw [nums_allN, he, rgNums_length]; exact hc
  have := told_any p (psOf q) w hW (by rw [nums_allN]; exact hn) (by rw [nums_allN]; exact hl) hlen
  rw [nums_allN, he, tell_back hs] at this
  exact this
theorem or_prep {w1 w3 w4 : World} {p1 p2 : Nat} {t1 t2 : TypeId} {vk1 vc1 vw1 vk2 vc2 vw2 : Value} {q1 : List Kon} (h1 : SS w1 [] w3 (BMP p1 t1 vk1 vc1 vw1 q1)) (hn : ∀ x, x ∈ allN (psOf q1) ↔ inR [(1, 3)] x) (h2 : SS w3 [] w4 (BMP p2 t2 vk2 vc2 vw2 [])) :
    Parts w4 (BMP p1 t1 vk1 vc1 vw1 q1) ∧ 0 < q1.length ∧ ∃ G2 c2, w4.cell? ⟨p2, 0, none⟩ = some (.slice G2 0 c2) := by
  refine ⟨h1.sep.kept h2.mild (fun _ _ => id), ?_, ?_⟩
  · rcases q1 with _ | ⟨x, q1⟩
    · have := (hn 1).2 ⟨(1, 3), by simp, by decide, by decide⟩
      simp [allN, psOf] at this
    · simp
  · have hra := RA.of (Parts.left h2.sep)
    obtain ⟨G2, c2, hv2, _⟩ := hra.keys.sliceOf
    exact ⟨G2, c2, by rw [hra.k, hv2]; rfl⟩

theorem or_told {w w1 w3 w4 w5 : World} {p1 p2 p : Nat} {t1 t2 t : TypeId} {vk1 vc1 vw1 vk2 vc2 vw2 vk vc vw : Value} {q1 q' : List Kon} (hT : Tab w) (hTs : 1 < w.heap.size) (m : Mild w w1) (h1 : SS w1 [] w3 (BMP p1 t1 vk1 vc1 vw1 q1)) (ok : OKP (psOf q1)) (hn : ∀ x, x ∈ allN (psOf q1) ↔ inR [(1, 3)] x) (h2 : SS w3 [] w4 (BMP p2 t2 vk2 vc2 vw2 []))
    (h3 : SS w4 (foot (BMP p1 t1 vk1 vc1 vw1 q1)) w5 (BMP p t vk vc vw q')) (hk : q'.map kon3 = q1.map kon3) :
    Calls Tryz.prog 31 #[.pointer (some ⟨p, 0, none⟩)] w5 fun e w' => ∃ A c, e = .returned (.slice A 1 c) ∧ Mild w w' := by
  have hps := kon3_ps hk
  have z1 := m.size
  have z3 := h1.mild.size
  have z4 := h2.mild.size
  have hTF := h1.clear (Nat.lt_of_lt_of_le hTs z1)
  have m4 : Mild w w4 := m.trans (h1.mild.trans h2.mild)
  have hT5 : Tab w5 := fun i hi => h3.kept.cell2 hTF (m4.cell2 id (hT i hi))
  have m5 : Mild w w5 := Kept.then (S' := (· ∈ foot (BMP p1 t1 vk1 vc1 vw1 q1))) m4 h3.kept (fun k hk hx => absurd hx (h1.clear (Nat.lt_of_lt_of_le hk z1)))
  have hr : RgOK 4294967296 [(1, 3)] := ⟨by intro r hr; simp at hr; subst hr; exact ⟨by decide, by decide⟩, by simp⟩
  have he : allN (psOf q1) = rgNums [(1, 3)] := allN_only ok hr hn (fun x => by rw [rgNums_mem (fun r hr' => (hr.1 r hr').1)]; rfl)
  have := toldB_any p t vk vc vw q' [(1, 3)] w5 (by rw [hps]; exact ok) h3.sep hT5 (Nat.lt_of_lt_of_le hTs m5.size) hr (by rw [hps]; exact he) (by simp [rgCard])
  refine this.mono ?_
  rintro ed w6 ⟨v, rfl, ho, hm, _⟩
  obtain ⟨A, c, hv⟩ := ho.form
  rw [hv]
  exact ⟨A, c, rfl, m5.trans hm⟩

set_option maxRecDepth 100000 in
set_option maxHeartbeats 4000000 in
theorem orSmall_any (g : Nat) (w : World) (h : Blk w g 48 [.int .u32 1, .int .u32 3]) (hT : Tab w) (hTs : 1 < w.heap.size) :
    Calls Tryz.prog 25 #[.slice (some ⟨g, 0, none⟩) 1 1, .slice none 0 0, .int .i64 0] w fun e w' => ∃ A c, e = .returned (.slice A 1 c) ∧ Mild w w' := by
  have hr : RgOK 4294967296 [(1, 3)] := ⟨by intro r hr; simp at hr; subst hr; exact ⟨by decide, by decide⟩, by simp⟩
  have hu : SG w (.slice (some ⟨g, 0, none⟩) 1 1) [(1, 3)] := ⟨some ⟨g, 0, none⟩, 1, rfl, fun i r hi => by
    rcases i with _ | i
    · simp at hi; subst hi
      exact ⟨⟨g, 0, none⟩, rfl, h.cell 0, h.cell 1⟩
    · simp at hi⟩
  have hn : SG w (.slice none 0 0) [] := ⟨none, 0, rfl, fun i r hi => by simp at hi⟩
  have m1 : Mild w (w.alloc (.cells #[.slice (some ⟨g, 0, none⟩) 1 1, .slice none 0 0] 22)) := (Kept.refl _ _).alloc _
  have hB := Blk.new w 22 [.slice (some ⟨g, 0, none⟩) 1 1, .slice none 0 0]
  have FT := Lib.hid (fits_any w.heap.size 2 2 [(.slice (some ⟨g, 0, none⟩) 1 1, [(1, 3)]), (.slice none 0 0, [])] (w.alloc (.cells #[.slice (some ⟨g, 0, none⟩) 1 1, .slice none 0 0] 22)) rfl (by decide) (fun i x hi => by
    rcases i with _ | _ | i
    · simp at hi; subst hi
      exact ⟨hB.cell 0, Go.Roar.SG.mild hu m1, by intro r hr; simp at hr; subst hr; exact ⟨by decide, by decide⟩, by simp [keep, rgCard], by simp⟩
    · simp at hi; subst hi
      exact ⟨hB.cell 1, Go.Roar.SG.mild hn m1, by intro r hr; simp at hr, by simp [keep, rgCard], by simp⟩
    · simp at hi))
  have M1 := Lib.hid m1
  have Hu := Lib.hid hu
  have Hnl := Lib.hid hn
  have HT := Lib.hid hT
  have Hr := Lib.hid hr
  clear m1 hB hu hn hT hr h
  have k0 : bits .and .i64 0 1 = 0 := by decide
  have k1 : bits .and .i64 0 2 = 0 := by decide
  have IM := Lib.hid (fun (W : World) (k : Mild w W) => implMade_any (.slice (some ⟨g, 0, none⟩) 1 1) [(1, 3)] false W (Go.Roar.SG.mild Hu.out k) (by intro r hr; simp at hr; subst hr; exact ⟨by decide, by decide⟩) (by simp) (fun i hi => k.cell2 id (HT.out i hi)) (Nat.lt_of_lt_of_le hTs k.size))
  have IN := Lib.hid (fun (W : World) (k : Mild w W) => implMade_any (.slice none 0 0) [] false W (Go.Roar.SG.mild Hnl.out k) (by intro r hr; simp at hr) (by simp) (fun i hi => k.cell2 id (HT.out i hi)) (Nat.lt_of_lt_of_le hTs k.size))
  go_enter Tryz.func25, Tryz.ntmps25
  go_wp2_with (first
    | (go_at_call 16; refine FT.out.mono ?_; rintro ed w1 ⟨rfl, hm⟩; have M2 := Lib.hid (M1.out.trans hm); clear hm)
    | (go_at_call 17; (with_reducible refine (IM.out _ M2.out).mono ?_); rintro ed w3 ⟨p1, vk1, vc1, vw1, q1, rfl, s1, o1, -, n1, -⟩; have HS1 := Lib.hid s1; have HO1 := Lib.hid o1; have HN1 := Lib.hid n1; have M3 := Lib.hid (M2.out.trans s1.mild); clear s1 o1 n1)
    | (go_at_call 17; (with_reducible refine (IN.out _ M3.out).mono ?_); rintro ed w4 ⟨p2, vk2, vc2, vw2, q2, rfl, s2, o2, -, n2, -⟩; obtain rfl := allN_empty o2 (fun x hx => inR_nil x ((n2 x).1 hx)); have HS2 := Lib.hid s2; have M4 := Lib.hid (M3.out.trans s2.mild); clear s2 o2 n2)
    | (go_at_call 37; obtain ⟨hP1, hq1, G2, c2, hv2⟩ := or_prep HS1.out HN1.out HS2.out; (with_reducible refine (orEmpty_any p1 p2 _ vk1 vc1 vw1 q1 w4 (BMP.len HO1.out) hq1 hP1 G2 c2 hv2).mono ?_); rintro ed w5 ⟨p, vk, vc, vw, q', rfl, s3, k3⟩; have HS3 := Lib.hid s3; have HK3 := Lib.hid k3; clear s3 k3 hP1 hq1 hv2; have TD := Lib.hid (or_told HT.out hTs M2.out HS1.out HO1.out HN1.out HS2.out HS3.out HK3.out))
    | (go_at_call 31; (with_reducible refine TD.out.mono ?_); rintro ed w6 ⟨A, c, rfl, hm⟩)
    | fail)
  go_ret
  exact ⟨A, c, rfl, hm⟩

set_option maxRecDepth 100000 in
set_option maxHeartbeats 1000000 in
theorem some_any (w : World) (hT : Tab w) (hTs : 1 < w.heap.size) :
    Calls Tryz.prog 12 #[] w fun e w' => e = .returned (.bool true) ∧ Mild w w' := by
  have m1 : Mild w (w.alloc (.cells #[.int .u32 1, .int .u32 3] 48)) := (Kept.refl _ _).alloc _
  have OS := Lib.hid (orSmall_any w.heap.size _ (Blk.new w 48 [.int .u32 1, .int .u32 3]) (fun i hi => m1.cell2 id (hT i hi)) (Nat.lt_of_lt_of_le hTs m1.size))
  have M1 := Lib.hid m1
  clear m1 hT
  go_enter Tryz.func12, Tryz.ntmps12
  go_wp2_with (first
    | (go_at_call 26; refine (three_any _).mono ?_; rintro ed w1 ⟨rfl, rfl⟩)
    | (go_at_call 25; (with_reducible refine OS.out.mono ?_); rintro ed w2 ⟨A, c, rfl, hm⟩; have M2 := Lib.hid (M1.out.trans hm); clear hm)
    | fail)
  go_ret
  exact ⟨rfl, M2.out⟩
end Go.Proofs
