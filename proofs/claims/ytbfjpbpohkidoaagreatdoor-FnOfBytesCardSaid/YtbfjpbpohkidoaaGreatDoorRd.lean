/-
  bytes.Reader.Read; io.ReadAtLeast over a bytes.Reader.
-/
import Derived.Test.YtbfjpbpohkidoaaGreatDoorDk
namespace Go.Roar
open Go.RowKit
theorem splice_len {α : Type} (cur : List α) (o : Nat) (cs : List α) (h : o + cs.length ≤ cur.length) : (splice cur o cs).length = cur.length := length_splice _ _ _ h
theorem splice_whole {α : Type} (zs ys : List α) (h : ys.length = zs.length) : splice zs 0 ys = ys := by
  unfold splice
  rw [List.take_zero, List.nil_append, Nat.zero_add, List.drop_eq_nil_of_le (by omega), List.append_nil]
theorem u8s_one (l : List Nat) : ∀ v ∈ u8s l, v.oneCell' = true := by
  intro v hv; obtain ⟨n, _, rfl⟩ := List.mem_map.1 hv; rfl
theorem run_cut_some {P : Program} (w : World) {t e : TypeId} (ht : P.underlying t = some (.slice e)) (hs : (P.info? e).map (·.size) = some 1) (g o len cap l : Nat) (k : IntKind) (j : Int) (hj : j = (l : Int)) (hl : l < len) (hc : len ≤ cap) :
    (Instr.slice t (.slice (some ⟨g, o, none⟩) len cap) (some (.int k j)) none none).run P w = .ok (.slice (some ⟨g, o + l, none⟩) (len - l) (cap - l)) w :=
  run_cut_from w ht hs g o len cap l k j hj (by omega) (by omega)
/-- A bytes.Reader at place off of its bytes. -/
structure RdA (w : World) (R D C : Nat) (bs : List Nat) (off : Nat) : Prop where
  blk : ∃ pr : Int, Blk w R 77 [.slice (some ⟨D, 0, none⟩) bs.length C, .int .i64 (off : Int), .int .i64 pr]
  data : ∃ r, Blk w D 5 (u8s bs ++ r)
  le : off ≤ bs.length
  cap : bs.length ≤ C
theorem RdA.kept {S : Nat → Prop} {w w' : World} {R D C : Nat} {bs : List Nat} {off : Nat} (h : RdA w R D C bs off) (k : Kept S w w') (h1 : ¬ S R) (h2 : ¬ S D) : RdA w' R D C bs off := by
  obtain ⟨⟨pr, a⟩, ⟨r, b⟩, c, d⟩ := h
  exact ⟨⟨pr, a.kept k h1⟩, ⟨r, b.kept k h2⟩, c, d⟩
end Go.Roar
namespace Go.Proofs
open Go.RowKit Go.Roar

set_option maxRecDepth 100000 in
set_option maxHeartbeats 1000000 in
theorem brRead_any (R D C : Nat) (bs : List Nat) (off : Nat) (G o n c : Nat) (t : TypeId) (cs : List Value) (w : World) (h : RdA w R D C bs off) (hn : 0 < n) (hle : off + n ≤ bs.length) (hb : bs.length ≤ 1000000000)
    (hG : Blk w G t cs) (hfit : o + n ≤ cs.length) (hGR : G ≠ R) (hGD : G ≠ D) (hRD : R ≠ D) :
    Calls Tryz.prog 258 #[.pointer (some ⟨R, 0, none⟩), .slice (some ⟨G, o, none⟩) n c] w fun e w' => e = .returned (.tuple #[.int .i64 (n : Int), .nilIface]) ∧
      RdA w' R D C bs (off + n) ∧ Blk w' G t (splice cs o (u8s ((bs.drop off).take n))) ∧ Kept (fun k => k = G ∨ k = R) w w' := by
  obtain ⟨⟨pr, hR⟩, ⟨r, hD⟩, _, hC⟩ := h
  have f0 := hR.cell 0
  have f1 := hR.cell 1
  have hlt : ((off : Int)) < (bs.length : Int) := by omega
  have s1 := fun (W : World) => run_cut_some (P := Tryz.prog) W undU8s szU8 D 0 bs.length C off .i64 (off : Int) rfl (by omega) hC
  have HR := Lib.hid hR
  have HD := Lib.hid hD
  have HG := Lib.hid hG
  clear hD hG hR
  go_enter Tryz.func258, Tryz.ntmps258
  go_wp2
  go_quiet (fail)
  have hR := HR.out.drewN nq
  have hD := HD.out.drewN nq
  have hG := HG.out.drewN nq
  have K0 : Mild w (w.drewN nq) := (Kept.refl _ _).drewN _
  clear HR HD HG f0 f1
  generalize w.drewN nq = W at *
  have f2 := hR.cell 2
  have ff := fun o => hR.free o
  have hR1 := hR.set 2 (.int .i64 (-1))
  have hD1 := hD.set_ne (b' := R) (Ne.symm hRD) 2 (.int .i64 (-1))
  have hG1 := hG.set_ne (b' := R) hGR 2 (.int .i64 (-1))
  have hbl : (u8s ((bs.drop off).take n)).length = n := by simp; omega
  have hsrc : ∀ (j : Nat) (v : Value), (u8s ((bs.drop off).take n))[j]? = some v → (W.setCell ⟨R, 2, none⟩ (.int .i64 (-1))).cell? ((⟨D, off, none⟩ : Addr).add j) = some v := by
    intro j v hj
    have e : (⟨D, off, none⟩ : Addr).add j = ⟨D, off + j, none⟩ := by unfold Addr.add; split <;> simp_all
    have hj' : j < n := by have := (List.getElem?_eq_some_iff.1 hj).1; omega
    rw [e, hD1.cell, List.getElem?_append_left (by simp; omega)]
    simp only [u8s, List.getElem?_map, List.getElem?_take_of_lt hj', List.getElem?_drop] at hj ⊢
    exact hj
  have K1 : Kept (fun k => k = G ∨ k = R) w (W.setCell ⟨R, 2, none⟩ (.int .i64 (-1))) := (K0.mono (fun _ _ => False.elim)).setCell (p := ⟨R, 2, none⟩) (fun _ => .inr rfl) _
  have Hbl := Lib.hid hbl
  have Hsrc := Lib.hid hsrc
  have HG := Lib.hid hG1
  have HD := Lib.hid hD1
  have HR := Lib.hid hR1
  have HK := Lib.hid K1
  clear hbl hsrc hR hD hG hD1 hG1 hR1 K1 K0
  go_wp2
  clear f2 ff
  generalize W.setCell ⟨R, 2, none⟩ (.int .i64 (-1)) = V at *
  have f0 := HR.out.cell 0
  have f1 := HR.out.cell 1
  go_wp2_with (first
    | (refine wpList_copy_mine rfl (.tmp 20) (.tmp 29) 34 34 rfl 5 1 undU8s szU8 (some ⟨G, o, none⟩) (some ⟨D, off, none⟩) n c (bs.length - off) (C - off) ?_ ?_ G o n cs t HG.out.drew (u8s ((bs.drop off).take n)) ?_ ?_ ?_ ?_ ?_ ?_; rfl; rfl; exact (Nat.min_eq_right (by omega)).symm; (rw [Hbl.out]; omega); exact (fun _ => ⟨rfl, _, rfl, Hsrc.out⟩); (rw [Hbl.out]; exact hfit); exact (u8s_one _); intro w3 h3 k3; have hR3 := HR.out.drew.kept k3 (Ne.symm hGR); have g1 := hR3.cell 1; have gf := fun o => hR3.free o)
    | (refine wp_region_tail 10 (by kernel_rfl) (by decide +kernel) ?_; simp only [List.take_succ_cons, List.take_zero, List.drop_succ_cons, List.drop_zero]; repeat still_step; try (refine wpStill_nil ?_; show wpList _ _ _ _ _ _)))
  go_ret2
  have hD3 := HD.out.drew.kept k3 (Ne.symm hGD)
  refine ⟨rfl, ⟨⟨-1, ?_⟩, ⟨r, hD3.set_ne (Ne.symm hRD) _ _⟩, hle, hC⟩, h3.set_ne hGR _ _, ?_⟩
  · have := hR3.set 1 (.int .i64 ((off : Int) + n))
    simpa using this
  · exact ((HK.out.drew).trans (k3.mono (fun _ _ h => .inl h))).setCell (p := ⟨R, 1, none⟩) (fun _ => .inr rfl) _
end Go.Proofs
