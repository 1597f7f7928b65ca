/-
  clone of a container.
-/
import Derived.Test.YteagcndpegdojaaGreatDoorKEf
import Derived.Test.YteagcndpegdojaaGreatDoorKAc
import Derived.Deep.OwnRows
import Derived.BigRegion
namespace Go.Roar
open Go.RowKit Go.Proofs
theorem splice_all {α : Type} (xs ys : List α) (h : xs.length = ys.length) : splice xs 0 ys = ys := by
  simp [splice, h]
theorem SS.madeO {w0 w : World} {F0 : List Nat} {L : List HA} (h : SS w0 F0 w L) (e : TypeId) (zs : Array Value) (n : Nat) (hn : zs.size = n) (hm : n ≤ maxLen) : SS w0 F0 (w.alloc (.cells zs e)) (O 1 e (.slice (some ⟨w.heap.size, 0, none⟩) n n) n zs.toList :: L) := by
  refine h.join (M := [O 1 e (.slice (some ⟨w.heap.size, 0, none⟩) n n) n zs.toList]) ⟨⟨fun A hA => ?_, by simp [O]⟩, fun b hb => .inr (by simp [O] at hb; omega), (Kept.refl _ _).alloc _⟩
  simp only [List.mem_cons, List.not_mem_nil, or_false] at hA
  subst hA
  exact ⟨by simp [hn], .inr ⟨w.heap.size, 0, [], rfl, by simp, hm, by rw [List.append_nil]; exact Blk.new w e zs.toList⟩⟩
end Go.Roar
namespace Go.Proofs
open Go.RowKit Go.Roar

set_option maxRecDepth 100000 in
set_option maxHeartbeats 2000000 in
theorem acClone_any (p : Nat) (v : Value) (l : List Nat) (w : World) (h0 : l ≠ []) (hl : l.length ≤ 65536) (h : Parts w (AC p v l)) :
    Calls Tryz.prog 167 #[.pointer (some ⟨p, 0, none⟩)] w fun ed w' => ∃ q v', ed = .returned (.iface 118 (.pointer (some ⟨q, 0, none⟩))) ∧ SS w [] w' (AC q v' l) := by
  obtain ⟨iU, zu1, zu2, zu3, zu4⟩ := info_parts infoU16
  have ho : Own w 1 39 v l.length (u16s l) := h.all (O 1 39 v l.length (u16s l)) (by simp [AC])
  have hB : Blk w p 120 [v] := h.all (B p 120 [v]) (by simp [AC])
  obtain ⟨g, c, rfl, _, _⟩ := Own.shape ho (List.length_pos_iff.2 h0)
  have hpos := List.length_pos_iff.2 h0
  have c0 := hB.cell 0
  have Hs := Lib.hid (fun (W : World) (k : Mild w W) => Own.src0 (ho.kept k (fun _ _ => id)) (u16s l) (fun _ _ h => h))
  clear ho hB h h0
  generalize hn : l.length = n at *
  have Hn := Lib.hid hn
  clear hn
  go_enter Tryz.func167, Tryz.ntmps167
  go_wp2_with (first
    | (at_make; refine wpList_make_ss rfl (.tmp 8) (.tmp 8) 37 rfl 39 iU (.int .u16 0) 1 undU16s zu1 zu2 zu3 w [] [] (SS.nothing w) .i64 .i64 _ _ n rfl rfl rfl rfl (by rw [zu4]; omega) (by unfold maxLen; omega) ?_; intro g2 w2 S2; have hz : ((madeCells (Value.int IntKind.u16 (0 : Int)).cells (n * 1)).toList).length = n := (by simp [size_madeCells]); generalize (madeCells (Value.int IntKind.u16 (0 : Int)).cells (n * 1)).toList = zs at S2 hz; have S3 := Lib.hid (S2.new 120 [.slice (some ⟨g2, 0, none⟩) n n]); have Hz := Lib.hid hz; clear S2 hz; have km := S3.out.mild; have b0 := km.cell2 id c0; have b1 := S3.out.cell 0 rfl 0 rfl; clear km)
    | (refine wpList_copy_ss rfl (.tmp 12) (.tmp 17) 37 37 rfl 39 1 undU16s szU16 w [] [B w2.heap.size 120 [.slice (some ⟨g2, 0, none⟩) n n]] [] g2 n n zs S3.out.drew (some ⟨g2, 0, none⟩) (some ⟨g, 0, none⟩) n n n c ?_ ?_ 0 n (u16s l) ?_ ?_ ?_ ?_ ?_ ?_; rfl; rfl; exact (Nat.min_self n).symm; (simp [Hn.out]); exact (fun h0 => ⟨rfl, _, rfl, fun j u hu => Hs.out _ S3.out.drew.mild j u hu⟩); (simp [Hn.out, Hz.out]); exact u16s_one l; intro w4 S4; have S5 := Lib.hid S4; clear S4)
    | (refine wp_region_tail 7 (by kernel_rfl) (by decide +kernel) ?_; simp only [List.take_succ_cons, List.take_zero, List.drop_succ_cons, List.drop_zero]; repeat still_step; try (refine wpStill_nil ?_; show wpList _ _ _ _ _ _))
    | fail)
  go_ret
  have S6 := S5.out
  rw [splice_all _ _ (by rw [Hz.out, u16s_length, Hn.out])] at S6
  refine ⟨w2.heap.size, .slice (some ⟨g2, 0, none⟩) n n, rfl, ?_⟩
  unfold AC
  rw [Hn.out]
  exact S6

set_option maxRecDepth 100000 in
set_option maxHeartbeats 2000000 in
theorem copyIv_any (g c : Nat) (rs : List (Nat × Nat)) (w : World) (hl : rs.length ≤ 65536) (h0 : 0 < rs.length) (ho : Own w 2 129 (.slice (some ⟨g, 0, none⟩) rs.length c) rs.length (ivs rs)) :
    Calls Tryz.prog 155 #[.slice (some ⟨g, 0, none⟩) rs.length c] w fun ed w' => ∃ q v', ed = .returned (.pointer (some ⟨q, 0, none⟩)) ∧ SS w [] w' (RC q v' rs) := by
  obtain ⟨iU, zu1, zu2, zu3, zu4⟩ := info_parts infoIv
  have Hs := Lib.hid (fun (W : World) (k : Mild w W) => Own.src0 (ho.kept k (fun _ _ => id)) (ivs rs) (fun _ _ h => h))
  clear ho
  generalize hn : rs.length = n at *
  have Hn := Lib.hid hn
  clear hn
  go_enter Tryz.func155, Tryz.ntmps155
  go_wp2_with (first
    | (at_make; refine wpList_make_ss rfl (.tmp 5) (.tmp 5) 125 rfl 129 iU (.agg #[.int .u16 (0 : Int), .int .u16 (0 : Int)]) 2 undIvs zu1 zu2 zu3 w [] [] (SS.nothing w) .i64 .i64 _ _ n rfl rfl rfl rfl (by rw [zu4]; omega) (by unfold maxLen; omega) ?_; intro g2 w2 S2; have hz : ((madeCells (Value.agg #[.int .u16 (0 : Int), .int .u16 (0 : Int)]).cells (n * 2)).toList).length = n * 2 := ((S2.get (A := O 2 129 (.slice (some ⟨g2, 0, none⟩) n n) n _) (List.mem_cons_self)).1); generalize (madeCells (Value.agg #[.int .u16 (0 : Int), .int .u16 (0 : Int)]).cells (n * 2)).toList = zs at S2 hz; have S3 := Lib.hid (S2.new 127 [.slice (some ⟨g2, 0, none⟩) n n]); have Hz := Lib.hid hz; clear S2 hz; have b1 := S3.out.cell 0 rfl 0 rfl)
    | (refine wpList_copy_ss rfl (.tmp 12) (.tmp 13) 125 125 rfl 129 2 undIvs szIv w [] [B w2.heap.size 127 [.slice (some ⟨g2, 0, none⟩) n n]] [] g2 n n zs S3.out (some ⟨g2, 0, none⟩) (some ⟨g, 0, none⟩) n n n c ?_ ?_ 0 n (ivs rs) ?_ ?_ ?_ ?_ ?_ ?_; rfl; rfl; exact (Nat.min_self n).symm; (simp [Hn.out]); exact (fun h0 => ⟨rfl, _, rfl, fun j u hu => Hs.out _ S3.out.mild j u hu⟩); (simp [Hn.out, Hz.out]); exact ivs_one rs; intro w4 S4; have S5 := Lib.hid S4; clear S4)
    | fail)
  go_ret
  have S6 := S5.out
  rw [splice_all _ _ (by rw [Hz.out, ivs_length, Hn.out])] at S6
  refine ⟨w2.heap.size, .slice (some ⟨g2, 0, none⟩) n n, rfl, ?_⟩
  unfold RC
  rw [Hn.out]
  exact S6
theorem rcClone_any (p : Nat) (v : Value) (rs : List (Nat × Nat)) (w : World) (hr : RgOK 65536 rs) (h0 : rs ≠ []) (h : Parts w (RC p v rs)) :
    Calls Tryz.prog 110 #[.pointer (some ⟨p, 0, none⟩)] w fun ed w' => ∃ q v', ed = .returned (.iface 90 (.pointer (some ⟨q, 0, none⟩))) ∧ SS w [] w' (RC q v' rs) := by
  have hlen := rg_length (n := 65536) rs 0 hr (by simp) (by omega)
  have ho : Own w 2 129 v rs.length (ivs rs) := h.all (O 2 129 v rs.length (ivs rs)) (by simp [RC])
  have hB : Blk w p 127 [v] := h.all (B p 127 [v]) (by simp [RC])
  obtain ⟨g, c, rfl, _, _⟩ := Own.shape ho (List.length_pos_iff.2 h0)
  have CI := Lib.hid (copyIv_any g c rs w (by omega) (List.length_pos_iff.2 h0) ho)
  have c0 := hB.cell 0
  clear hr h0 h ho hB
  generalize rs.length = n at *
  go_enter Tryz.func110, Tryz.ntmps110
  go_wp2_with (first
    | (go_at_call 155; refine CI.out.mono ?_; rintro ed w1 ⟨q, v', rfl, hS⟩; have S1 := Lib.hid hS; clear hS)
    | fail)
  go_ret
  exact ⟨q, v', rfl, S1.out⟩

theorem szU64b : (Tryz.prog.info? 62).map (·.size) = some 1 := by kernel_rfl
theorem u64s_one (l : List Nat) : ∀ v ∈ u64s l, v.oneCell' = true := by
  intro v hv
  unfold u64s at hv
  obtain ⟨x, _, rfl⟩ := List.mem_map.1 hv
  rfl

set_option maxRecDepth 100000 in
set_option maxHeartbeats 2000000 in
theorem bcClone_any (p g c : Nat) (ws l : List Nat) (w : World) (hl : ws.length = 1024) (h : Parts w (BC p l.length (.slice (some ⟨g, 0, none⟩) 1024 c) ws)) :
    Calls Tryz.prog 180 #[.pointer (some ⟨p, 0, none⟩)] w fun ed w' => ∃ q g', ed = .returned (.iface 93 (.pointer (some ⟨q, 0, none⟩))) ∧ SS w [] w' (BC q l.length (.slice (some ⟨g', 0, none⟩) 1024 1024) ws) := by
  obtain ⟨zs, hz, hmk⟩ : ∃ zs : Array Value, zs.size = 1024 ∧ ∀ W : World, (Instr.makeSlice 141 (.int .i64 1024) (.int .i64 1024)).run Tryz.prog W = .ok (.slice (some ⟨W.heap.size, 0, none⟩) 1024 1024) (W.alloc (.cells zs 62)) :=
    ⟨madeCells #[.int .u64 0] 1024, by simp [size_madeCells], fun W => run_make_row' (P := Tryz.prog) 141 62 (.int .u64 0) 8 undU64sb infoU64b rfl .i64 .i64 1024 (by decide) (by decide) W⟩
  have hB : Blk w p 143 [.int .i64 (l.length : Int), .slice (some ⟨g, 0, none⟩) 1024 c] := h.all (B p 143 [.int .i64 (l.length : Int), .slice (some ⟨g, 0, none⟩) 1024 c]) (by simp [BC])
  have ho : Own w 1 62 (.slice (some ⟨g, 0, none⟩) 1024 c) 1024 (u64s ws) := h.all (O 1 62 (.slice (some ⟨g, 0, none⟩) 1024 c) 1024 (u64s ws)) (by simp [BC])
  have c0 := hB.cell 0
  have c1 := hB.cell 1
  simp only [List.getElem?_cons_zero, List.getElem?_cons_succ] at c0 c1
  have Hs := Lib.hid (fun (W : World) (k : Mild w W) => Own.src0 (ho.kept k (fun _ _ => id)) (u64s ws) (fun _ _ h => h))
  have Hl := Lib.hid hl
  clear ho hB h hl
  generalize l.length = n at *
  go_enter Tryz.func180, Tryz.ntmps180
  go_wp2_with fail
  have m1 : Mild w (w.alloc (Obj.cells #[Value.int IntKind.i64 0, Value.slice none 0 0] 143)) := (Kept.refl _ _).alloc _
  have m2 : Mild w (w.alloc (Obj.cells zs 62)) := (Kept.refl _ _).alloc _
  have Hz := Lib.hid hz
  clear hz
  have d0 := m1.cell2 id c0
  have d1 := m1.cell2 id c1
  have d2 := (m1.alloc (Obj.cells zs 62)).cell2 id c0
  have d3 := (m1.alloc (Obj.cells zs 62)).cell2 id c1
  have d4 := m2.cell2 id c0
  have d5 := m2.cell2 id c1
  have d6 := (m2.alloc (Obj.cells #[Value.int IntKind.i64 0, Value.slice none 0 0] 143)).cell2 id c0
  have d7 := (m2.alloc (Obj.cells #[Value.int IntKind.i64 0, Value.slice none 0 0] 143)).cell2 id c1
  go_region
  · have SA : Hid (SS w [] (((w.alloc (Obj.cells zs 62)).alloc (Obj.cells #[Value.int IntKind.i64 (n : Int), Value.slice (some ⟨w.heap.size, 0, none⟩) 1024 1024] 143)).drew) [B (w.heap.size + 1) 143 [.int .i64 (n : Int), .slice (some ⟨w.heap.size, 0, none⟩) 1024 1024], O 1 62 (.slice (some ⟨w.heap.size, 0, none⟩) 1024 1024) 1024 zs.toList]) := Lib.hid (by
      have := ((SS.nothing w).madeO 62 zs 1024 Hz.out (by unfold maxLen; omega)).new 143 [.int .i64 (n : Int), .slice (some ⟨w.heap.size, 0, none⟩) 1024 1024]
      simp only [World.size_alloc] at this
      exact this.drew)
    generalize (((w.alloc (Obj.cells zs 62)).alloc (Obj.cells #[Value.int IntKind.i64 (n : Int), Value.slice (some ⟨w.heap.size, 0, none⟩) 1024 1024] 143)).drew) = W2 at *
    generalize w.heap.size + 1 = H1 at *
    generalize w.heap.size = H2 at *
    clear d0 d1 d2 d3 d4 d5 d6 d7 m1 m2
    have km := SA.out.mild
    have b0 := km.cell2 id c1
    have b1 := SA.out.cell 0 rfl 1 rfl
    clear km
    go_wp2_with (first
      | (refine wpList_copy_ss rfl (.tmp 16) (.tmp 21) 141 141 rfl 62 1 undU64sb szU64b w [] [B H1 143 [.int .i64 (n : Int), .slice (some ⟨H2, 0, none⟩) 1024 1024]] [] H2 1024 1024 zs.toList SA.out.drew (some ⟨H2, 0, none⟩) (some ⟨g, 0, none⟩) 1024 1024 1024 c ?_ ?_ 0 1024 (u64s ws) ?_ ?_ ?_ ?_ ?_ ?_; rfl; rfl; exact (Nat.min_self 1024).symm; (simp [Hl.out]); exact (fun h0 => ⟨rfl, _, rfl, fun j u hu => Hs.out _ SA.out.drew.mild j u hu⟩); (simp [Hl.out, Hz.out]); exact u64s_one ws; intro w4 S4; have S5 := Lib.hid S4; clear S4)
      | (refine wp_region_tail 7 (by kernel_rfl) (by decide +kernel) ?_; simp only [List.take_succ_cons, List.take_zero, List.drop_succ_cons, List.drop_zero]; repeat still_step; try (refine wpStill_nil ?_; show wpList _ _ _ _ _ _))
      | fail)
    go_ret
    have S6 := S5.out
    rw [splice_all _ _ (by rw [u64s_length, Hl.out, Array.length_toList, Hz.out])] at S6
    exact ⟨H1, H2, rfl, S6⟩
  · have SA : Hid (SS w [] (((w.alloc (Obj.cells #[Value.int IntKind.i64 (n : Int), Value.slice (some ⟨w.heap.size + 1, 0, none⟩) 1024 1024] 143)).alloc (Obj.cells zs 62)).drew) [B (w.heap.size) 143 [.int .i64 (n : Int), .slice (some ⟨w.heap.size + 1, 0, none⟩) 1024 1024], O 1 62 (.slice (some ⟨w.heap.size + 1, 0, none⟩) 1024 1024) 1024 zs.toList]) := Lib.hid (by
      have := ((SS.nothing w).new 143 [.int .i64 (n : Int), .slice (some ⟨w.heap.size + 1, 0, none⟩) 1024 1024]).madeO 62 zs 1024 Hz.out (by unfold maxLen; omega)
      simp only [World.size_alloc] at this
      exact this.swap.drew)
    generalize (((w.alloc (Obj.cells #[Value.int IntKind.i64 (n : Int), Value.slice (some ⟨w.heap.size + 1, 0, none⟩) 1024 1024] 143)).alloc (Obj.cells zs 62)).drew) = W2 at *
    generalize w.heap.size + 1 = H2 at *
    generalize w.heap.size = H1 at *
    clear d0 d1 d2 d3 d4 d5 d6 d7 m1 m2
    have km := SA.out.mild
    have b0 := km.cell2 id c1
    have b1 := SA.out.cell 0 rfl 1 rfl
    clear km
    go_wp2_with (first
      | (refine wpList_copy_ss rfl (.tmp 16) (.tmp 21) 141 141 rfl 62 1 undU64sb szU64b w [] [B H1 143 [.int .i64 (n : Int), .slice (some ⟨H2, 0, none⟩) 1024 1024]] [] H2 1024 1024 zs.toList SA.out.drew (some ⟨H2, 0, none⟩) (some ⟨g, 0, none⟩) 1024 1024 1024 c ?_ ?_ 0 1024 (u64s ws) ?_ ?_ ?_ ?_ ?_ ?_; rfl; rfl; exact (Nat.min_self 1024).symm; (simp [Hl.out]); exact (fun h0 => ⟨rfl, _, rfl, fun j u hu => Hs.out _ SA.out.drew.mild j u hu⟩); (simp [Hl.out, Hz.out]); exact u64s_one ws; intro w4 S4; have S5 := Lib.hid S4; clear S4)
      | (refine wp_region_tail 7 (by kernel_rfl) (by decide +kernel) ?_; simp only [List.take_succ_cons, List.take_zero, List.drop_succ_cons, List.drop_zero]; repeat still_step; try (refine wpStill_nil ?_; show wpList _ _ _ _ _ _))
      | fail)
    go_ret
    have S6 := S5.out
    rw [splice_all _ _ (by rw [u64s_length, Hl.out, Array.length_toList, Hz.out])] at S6
    exact ⟨H1, H2, rfl, S6⟩
end Go.Proofs
