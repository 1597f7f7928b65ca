/-
  bytes.Reader.Read; io.ReadAtLeast over a bytes.Reader.
  io.ReadAtLeast over a bytes.Reader.
  ByteInputAdapter over a bytes.Reader: Read, Next, SkipBytes, ReadUInt32, ReadUInt16.
  ByteInputAdapter over a bytes.Reader: Next, SkipBytes, ReadUInt32, ReadUInt16, GetReadBytes, NextReturnsSafeSlice.
  roaring.New, bytes.NewReader, NewByteInputFromReader, slices.Clone; Bitmap.ReadFrom.
-/
import Derived.Test.YtanmgknadeoffaaGreatDoorJLe
import Derived.Deep.RegionHeld3
import Derived.Maps.AppendAt
import Derived.Stop.Asserts
import Derived.Lib.SliceRun
namespace Go.Roar
open Go.RowKit
theorem splice_len {α : Type} (cur : List α) (o : Nat) (cs : List α) (h : o + cs.length ≤ cur.length) : (splice cur o cs).length = cur.length := length_splice _ _ _ h
theorem splice_whole {α : Type} (zs ys : List α) (h : ys.length = zs.length) : splice zs 0 ys = ys := by
  unfold splice
  rw [List.take_zero, List.nil_append, Nat.zero_add, List.drop_eq_nil_of_le (by omega), List.append_nil]
theorem u8s_one (l : List Nat) : ∀ v ∈ u8s l, v.oneCell' = true := by
  intro v hv; obtain ⟨n, _, rfl⟩ := List.mem_map.1 hv; rfl
theorem run_cut_some {P : Program} (w : World) {t e : TypeId} (ht : P.underlying t = some (.slice e)) (hs : (P.info? e).map (·.size) = some 1) (g o len cap l : Nat) (k : IntKind) (j : Int) (hj : j = (l : Int)) (hl : l < len) (hc : len ≤ cap) :
    (Instr.slice t (.slice (some ⟨g, o, none⟩) len cap) (some (.int k j)) none none).run P w = .ok (.slice (some ⟨g, o + l, none⟩) (len - l) (cap - l)) w :=
  run_cut_from w ht hs g o len cap l k j hj (by omega) (by omega)
/-- A bytes.Reader at place off of its bytes. -/
structure RdA (w : World) (R D C : Nat) (bs : List Nat) (off : Nat) : Prop where
  blk : ∃ pr : Int, Blk w R 96 [.slice (some ⟨D, 0, none⟩) bs.length C, .int .i64 (off : Int), .int .i64 pr]
  data : ∃ r, Blk w D 5 (u8s bs ++ r)
  le : off ≤ bs.length
  cap : bs.length ≤ C
theorem RdA.kept {S : Nat → Prop} {w w' : World} {R D C : Nat} {bs : List Nat} {off : Nat} (h : RdA w R D C bs off) (k : Kept S w w') (h1 : ¬ S R) (h2 : ¬ S D) : RdA w' R D C bs off := by
  obtain ⟨⟨pr, a⟩, ⟨r, b⟩, c, d⟩ := h
  exact ⟨⟨pr, a.kept k h1⟩, ⟨r, b.kept k h2⟩, c, d⟩
end Go.Roar
namespace Go.Proofs
open Go.RowKit Go.Roar

set_option maxRecDepth 100000 in
set_option maxHeartbeats 1000000 in
theorem brRead_any (R D C : Nat) (bs : List Nat) (off : Nat) (G o n c : Nat) (t : TypeId) (cs : List Value) (w : World) (h : RdA w R D C bs off) (hn : 0 < n) (hle : off + n ≤ bs.length) (hb : bs.length ≤ 1000000000)
    (hG : Blk w G t cs) (hfit : o + n ≤ cs.length) (hGR : G ≠ R) (hGD : G ≠ D) (hRD : R ≠ D) :
    Calls Tryz.prog 352 #[.pointer (some ⟨R, 0, none⟩), .slice (some ⟨G, o, none⟩) n c] w fun e w' => e = .returned (.tuple #[.int .i64 (n : Int), .nilIface]) ∧
      RdA w' R D C bs (off + n) ∧ Blk w' G t (splice cs o (u8s ((bs.drop off).take n))) ∧ Kept (fun k => k = G ∨ k = R) w w' := by
  obtain ⟨⟨pr, hR⟩, ⟨r, hD⟩, _, hC⟩ := h
  have f0 := hR.cell 0
  have f1 := hR.cell 1
  have hlt : ((off : Int)) < (bs.length : Int) := by omega
  have s1 := fun (W : World) => run_cut_some (P := Tryz.prog) W undU8s szU8 D 0 bs.length C off .i64 (off : Int) rfl (by omega) hC
  have HR := Lib.hid hR
  have HD := Lib.hid hD
  have HG := Lib.hid hG
  clear hD hG hR
  go_enter Tryz.func352, Tryz.ntmps352
  go_wp2
  go_quiet (fail)
  have hR := HR.out.drewN nq
  have hD := HD.out.drewN nq
  have hG := HG.out.drewN nq
  have K0 : Mild w (w.drewN nq) := (Kept.refl _ _).drewN _
  clear HR HD HG f0 f1
  generalize w.drewN nq = W at *
  have f2 := hR.cell 2
  have ff := fun o => hR.free o
  have hR1 := hR.set 2 (.int .i64 (-1))
  have hD1 := hD.set_ne (b' := R) (Ne.symm hRD) 2 (.int .i64 (-1))
  have hG1 := hG.set_ne (b' := R) hGR 2 (.int .i64 (-1))
  have hbl : (u8s ((bs.drop off).take n)).length = n := by simp; omega
  have hsrc : ∀ (j : Nat) (v : Value), (u8s ((bs.drop off).take n))[j]? = some v → (W.setCell ⟨R, 2, none⟩ (.int .i64 (-1))).cell? ((⟨D, off, none⟩ : Addr).add j) = some v := by
    intro j v hj
    have e : (⟨D, off, none⟩ : Addr).add j = ⟨D, off + j, none⟩ := by unfold Addr.add; split <;> simp_all
    have hj' : j < n := by have := (List.getElem?_eq_some_iff.1 hj).1; omega
    rw [e, hD1.cell, List.getElem?_append_left (by simp; omega)]
    simp only [u8s, List.getElem?_map, List.getElem?_take_of_lt hj', List.getElem?_drop] at hj ⊢
    exact hj
  have K1 : Kept (fun k => k = G ∨ k = R) w (W.setCell ⟨R, 2, none⟩ (.int .i64 (-1))) := (K0.mono (fun _ _ => False.elim)).setCell (p := ⟨R, 2, none⟩) (fun _ => .inr rfl) _
  have Hbl := Lib.hid hbl
  have Hsrc := Lib.hid hsrc
  have HG := Lib.hid hG1
  have HD := Lib.hid hD1
  have HR := Lib.hid hR1
  have HK := Lib.hid K1
  clear hbl hsrc hR hD hG hD1 hG1 hR1 K1 K0
  go_wp2
  clear f2 ff
  generalize W.setCell ⟨R, 2, none⟩ (.int .i64 (-1)) = V at *
  have f0 := HR.out.cell 0
  have f1 := HR.out.cell 1
  go_wp2_with (first
    | (refine wpList_copy_mine rfl (.tmp 20) (.tmp 29) 27 27 rfl 5 1 undU8s szU8 (some ⟨G, o, none⟩) (some ⟨D, off, none⟩) n c (bs.length - off) (C - off) ?_ ?_ G o n cs t HG.out.drew (u8s ((bs.drop off).take n)) ?_ ?_ ?_ ?_ ?_ ?_; rfl; rfl; exact (Nat.min_eq_right (by omega)).symm; (rw [Hbl.out]; omega); exact (fun _ => ⟨rfl, _, rfl, Hsrc.out⟩); (rw [Hbl.out]; exact hfit); exact (u8s_one _); intro w3 h3 k3; have hR3 := HR.out.drew.kept k3 (Ne.symm hGR); have g1 := hR3.cell 1; have gf := fun o => hR3.free o)
    | (refine wp_region_tail 10 (by kernel_rfl) (by decide +kernel) ?_; simp only [List.take_succ_cons, List.take_zero, List.drop_succ_cons, List.drop_zero]; repeat still_step; try (refine wpStill_nil ?_; show wpList _ _ _ _ _ _)))
  go_ret2
  have hD3 := HD.out.drew.kept k3 (Ne.symm hGD)
  refine ⟨rfl, ⟨⟨-1, ?_⟩, ⟨r, hD3.set_ne (Ne.symm hRD) _ _⟩, hle, hC⟩, h3.set_ne hGR _ _, ?_⟩
  · have := hR3.set 1 (.int .i64 ((off : Int) + n))
    simpa using this
  · exact ((HK.out.drew).trans (k3.mono (fun _ _ h => .inl h))).setCell (p := ⟨R, 1, none⟩) (fun _ => .inr rfl) _
end Go.Proofs

namespace Go.Proofs
open Go.RowKit Go.Roar

theorem ahead_read (a : Addr) (w : World) : (nilAhead 368 70 (.pointer (some a)) "Read").run Tryz.prog w = .ok (some false) w := by kernel_rfl
theorem method_read (a : Addr) (w : World) : (method 368 70 (.pointer (some a)) "Read").run Tryz.prog w = .ok (352, .pointer (some a)) w := by kernel_rfl

set_option maxRecDepth 100000 in
set_option maxHeartbeats 1000000 in
theorem ral_any (R D C : Nat) (bs : List Nat) (off : Nat) (G o n c : Nat) (t : TypeId) (cs : List Value) (w : World) (h : RdA w R D C bs off) (hn : 0 < n) (hle : off + n ≤ bs.length) (hb : bs.length ≤ 1000000000)
    (hG : Blk w G t cs) (hfit : o + n ≤ cs.length) (hGR : G ≠ R) (hGD : G ≠ D) (hRD : R ≠ D) (hnc : n ≤ c) :
    Calls Tryz.prog 277 #[.iface 70 (.pointer (some ⟨R, 0, none⟩)), .slice (some ⟨G, o, none⟩) n c, .int .i64 (n : Int)] w fun e w' => e = .returned (.tuple #[.int .i64 (n : Int), .nilIface]) ∧
      RdA w' R D C bs (off + n) ∧ Blk w' G t (splice cs o (u8s ((bs.drop off).take n))) ∧ Kept (fun k => k = G ∨ k = R) w w' := by
  have s1 := fun (W : World) => run_cut_from (P := Tryz.prog) W undU8s szU8 G o n c 0 .i64 (0 : Int) rfl (by omega) (by omega)
  have n1 := ahead_read ⟨R, 0, none⟩
  have n2 := method_read ⟨R, 0, none⟩
  have HR := Lib.hid h
  have HG := Lib.hid hG
  clear h hG
  go_enter Tryz.func277, Tryz.ntmps277
  go_wp2
  refine wp_loop_rounds 2 ?_
  rw [rounds_succ]
  go_wp2
  have hr' : RdA w.drew R D C bs off := HR.out.kept (S := fun _ => False) (Kept.refl _ _).drew id id
  have hg' := HG.out.drew
  go_region_held3 (fun _ => True) (trivial) (first
    | (go_at_call 352; ((with_reducible refine (brRead_any R D C bs off G o n c t cs w.drew hr' hn hle hb hg' hfit hGR hGD hRD).mono ?_); rintro ed w2 ⟨rfl, h1, h2, h3⟩)))
  all_goals
    go_wp2
    rw [rounds_succ]
    go_wp2
    go_ret2
    exact ⟨rfl, h1, h2, ((Kept.refl _ w).drew).trans h3⟩

theorem ral_zero (R : Nat) (A : Option Addr) (c : Nat) (w : World) :
    Calls Tryz.prog 277 #[.iface 70 (.pointer (some ⟨R, 0, none⟩)), .slice A 0 c, .int .i64 0] w fun e w' => e = .returned (.tuple #[.int .i64 0, .nilIface]) ∧ w = w' := by
  go_enter Tryz.func277, Tryz.ntmps277
  go_wp2
  refine wp_loop_rounds 1 ?_
  rw [rounds_succ]
  go_wp2
  go_ret2
  exact ⟨rfl, rfl⟩
end Go.Proofs

namespace Go.Roar
open Go.RowKit
/-- The adapter S over the reader R over the bytes in block D. -/
structure StrA (w : World) (S R D C : Nat) (bs : List Nat) (off : Nat) : Prop where
  blk : ∃ x0 x1 x2 x3, Blk w S 124 [.iface 70 (.pointer (some ⟨R, 0, none⟩)), .int .i64 (off : Int), x0, x1, x2, x3]
  rd : RdA w R D C bs off
theorem StrA.kept {T : Nat → Prop} {w w' : World} {S R D C : Nat} {bs : List Nat} {off : Nat} (h : StrA w S R D C bs off) (k : Kept T w w') (h0 : ¬ T S) (h1 : ¬ T R) (h2 : ¬ T D) : StrA w' S R D C bs off := by
  obtain ⟨⟨x0, x1, x2, x3, a⟩, b⟩ := h
  exact ⟨⟨x0, x1, x2, x3, a.kept k h0⟩, b.kept k h1 h2⟩
theorem StrA.mild {w w' : World} {S R D C : Nat} {bs : List Nat} {off : Nat} (h : StrA w S R D C bs off) (k : Mild w w') : StrA w' S R D C bs off := h.kept k id id id
end Go.Roar
namespace Go.Proofs
open Go.RowKit Go.Roar

set_option maxRecDepth 100000 in
set_option maxHeartbeats 1000000 in
/-- Read into a block of its own. -/
theorem baRead_far (S R D C : Nat) (bs : List Nat) (off : Nat) (G o n c : Nat) (t : TypeId) (cs : List Value) (w : World) (h : StrA w S R D C bs off) (hn : 0 < n) (hle : off + n ≤ bs.length) (hb : bs.length ≤ 1000000000)
    (hG : Blk w G t cs) (hfit : o + n ≤ cs.length) (hGS : G ≠ S) (hGR : G ≠ R) (hGD : G ≠ D) (hSR : S ≠ R) (hSD : S ≠ D) (hRD : R ≠ D) (hnc : n ≤ c) :
    Calls Tryz.prog 273 #[.pointer (some ⟨S, 0, none⟩), .slice (some ⟨G, o, none⟩) n c] w fun e w' => e = .returned (.tuple #[.int .i64 (n : Int), .nilIface]) ∧
      StrA w' S R D C bs (off + n) ∧ Blk w' G t (splice cs o (u8s ((bs.drop off).take n))) ∧ Kept (fun k => k = G ∨ k = R ∨ k = S) w w' := by
  obtain ⟨⟨x0, x1, x2, x3, hS⟩, hR⟩ := h
  have f0 := hS.cell 0
  have H := Lib.hid (ral_any R D C bs off G o n c t cs w hR hn hle hb hG hfit hGR hGD hRD hnc)
  have HS := Lib.hid hS
  clear hS hR hG
  go_enter Tryz.func273, Tryz.ntmps273
  go_wp2_with (go_at_call 277; refine H.out.mono ?_; rintro ed w2 ⟨rfl, h1, h2, h3⟩; have hS2 := HS.out.kept h3 (by intro h; rcases h with h | h; exact hGS h.symm; exact hSR h); have g1 := hS2.cell 1; have gf := fun o => hS2.free o)
  go_ret2
  refine ⟨rfl, ⟨⟨x0, x1, x2, x3, ?_⟩, ?_⟩, h2.set_ne hGS _ _, (h3.mono (by intro k _ h; rcases h with h | h; exact .inl h; exact .inr (.inl h))).setCell (p := ⟨S, 1, none⟩) (fun _ => .inr (.inr rfl)) _⟩
  · have := hS2.set 1 (.int .i64 ((off : Int) + n))
    simpa using this
  · exact h1.kept (Kept.one _ S 1 _) (Ne.symm hSR) (Ne.symm hSD)

theorem baRead_zero (S R D C : Nat) (bs : List Nat) (off : Nat) (A : Option Addr) (c : Nat) (w : World) (h : StrA w S R D C bs off) (hb : bs.length ≤ 1000000000) (hSR : S ≠ R) (hSD : S ≠ D) :
    Calls Tryz.prog 273 #[.pointer (some ⟨S, 0, none⟩), .slice A 0 c] w fun e w' => e = .returned (.tuple #[.int .i64 0, .nilIface]) ∧
      StrA w' S R D C bs off ∧ Kept (fun k => k = S) w w' := by
  obtain ⟨⟨x0, x1, x2, x3, hS⟩, hR⟩ := h
  have hle := hR.le
  have f0 := hS.cell 0
  have f1 := hS.cell 1
  have ff := fun o => hS.free o
  have H := Lib.hid (ral_zero R A c w)
  have HS := Lib.hid hS
  have HR := Lib.hid hR
  clear hS hR
  go_enter Tryz.func273, Tryz.ntmps273
  go_wp2_with (go_at_call 277; refine H.out.mono ?_; rintro ed w2 ⟨rfl, rfl⟩)
  go_ret2
  have K : Kept (fun k => k = S) w (w.setCell ⟨S, 1, none⟩ (.int .i64 (off : Int))) := Kept.one _ _ _ _
  refine ⟨rfl, ⟨⟨x0, x1, x2, x3, ?_⟩, HR.out.kept K (Ne.symm hSR) (Ne.symm hSD)⟩, K⟩
  have := HS.out.set 1 (.int .i64 (off : Int))
  simpa using this

set_option maxRecDepth 100000 in
set_option maxHeartbeats 1000000 in
/-- Read into the adapter's own four bytes. -/
theorem baRead_near (S R D C : Nat) (bs : List Nat) (off : Nat) (n : Nat) (w : World) (h : StrA w S R D C bs off) (hn : 0 < n) (hn4 : n ≤ 4) (hle : off + n ≤ bs.length) (hb : bs.length ≤ 1000000000)
    (hSR : S ≠ R) (hSD : S ≠ D) (hRD : R ≠ D) :
    Calls Tryz.prog 273 #[.pointer (some ⟨S, 0, none⟩), .slice (some ⟨S, 2, none⟩) n 4] w fun e w' => e = .returned (.tuple #[.int .i64 (n : Int), .nilIface]) ∧
      StrA w' S R D C bs (off + n) ∧ (∀ (j x : Nat), j < n → bs[off + j]? = some x → w'.cell? ⟨S, 2 + j, none⟩ = some (.int .u8 (x : Int))) ∧ Kept (fun k => k = R ∨ k = S) w w' := by
  obtain ⟨⟨x0, x1, x2, x3, hS⟩, hR⟩ := h
  have f0 := hS.cell 0
  have hbl : (u8s ((bs.drop off).take n)).length = n := by simp; omega
  have H := Lib.hid (ral_any R D C bs off S 2 n 4 _ _ w hR hn hle hb hS (by simp; omega) hSR hSD hRD hn4)
  have hat : ∀ (j x : Nat), j < n → bs[off + j]? = some x → (splice [.iface 70 (.pointer (some ⟨R, 0, none⟩)), .int .i64 (off : Int), x0, x1, x2, x3] 2 (u8s ((bs.drop off).take n)))[2 + j]? = some (.int .u8 (x : Int)) := by
    intro j x hj hx
    unfold splice
    rw [List.getElem?_append_right (by simp)]
    simp only [List.take_succ_cons, List.take_zero, List.length_cons, List.length_nil]
    rw [show 2 + j - (0 + 1 + 1) = j by omega, List.getElem?_append_left (by rw [hbl]; exact hj)]
    exact u8s_at (by rw [List.getElem?_take_of_lt hj, List.getElem?_drop]; exact hx)
  have h01 : ∃ y0 y1 y2 y3, splice [.iface 70 (.pointer (some ⟨R, 0, none⟩)), .int .i64 (off : Int), x0, x1, x2, x3] 2 (u8s ((bs.drop off).take n)) = [.iface 70 (.pointer (some ⟨R, 0, none⟩)), .int .i64 (off : Int), y0, y1, y2, y3] := by
    have hl : (splice [.iface 70 (.pointer (some ⟨R, 0, none⟩)), .int .i64 (off : Int), x0, x1, x2, x3] 2 (u8s ((bs.drop off).take n))).length = 6 := by
      rw [splice_len _ _ _ (by rw [hbl]; simp; omega)]; rfl
    unfold splice at hl ⊢
    simp only [List.take_succ_cons, List.take_zero, List.cons_append, List.nil_append, List.length_cons] at hl ⊢
    generalize u8s ((bs.drop off).take n) ++ _ = l at *
    match l, hl with
    | [y0, y1, y2, y3], _ => exact ⟨y0, y1, y2, y3, rfl⟩
  have Hat := Lib.hid hat
  obtain ⟨y0, y1, y2, y3, h01⟩ := h01
  have H01 := Lib.hid h01
  clear hS hR hat hbl h01
  go_enter Tryz.func273, Tryz.ntmps273
  go_wp2_with (go_at_call 277; refine H.out.mono ?_; rintro ed w2 ⟨rfl, h1, h2, h3⟩; rw [H01.out] at h2; have g1 := h2.cell 1; have gf := fun o => h2.free o)
  go_ret2
  refine ⟨rfl, ⟨⟨y0, y1, y2, y3, ?_⟩, ?_⟩, ?_, (h3.mono (by intro k _ h; rcases h with h | h; exact .inr h; exact .inl h)).setCell (p := ⟨S, 1, none⟩) (fun _ => .inr rfl) _⟩
  · have := h2.set 1 (.int .i64 ((off : Int) + n))
    simpa using this
  · exact h1.kept (Kept.one _ S 1 _) (Ne.symm hSR) (Ne.symm hSD)
  · intro j x hj hx
    have := Hat.out j x hj hx
    rw [H01.out] at this
    have e := (h2.set 1 (.int .i64 ((off : Int) + n))).cell (2 + j)
    rw [e, List.getElem?_set_ne (by omega)]
    exact this
end Go.Proofs

namespace Go.Proofs
open Go.RowKit Go.Roar

theorem infoU8 : (Tryz.prog.info? 5).map (fun i => (i.zero, i.size, i.bytes)) = some (some (.int .u8 0), 1, 1) := by kernel_rfl

set_option maxRecDepth 100000 in
set_option maxHeartbeats 1000000 in
theorem baNext_any (S R D C : Nat) (bs : List Nat) (off n : Nat) (w : World) (h : StrA w S R D C bs off) (hle : off + n ≤ bs.length) (hb : bs.length ≤ 1000000000) (hby : ∀ b ∈ bs, b < 256)
    (hSR : S ≠ R) (hSD : S ≠ D) (hRD : R ≠ D) :
    Calls Tryz.prog 271 #[.pointer (some ⟨S, 0, none⟩), .int .i64 (n : Int)] w fun e w' => ∃ A c, e = .returned (.tuple #[.slice A n c, .nilIface]) ∧
      RB w' A n c ((bs.drop off).take n) ∧ StrA w' S R D C bs (off + n) ∧ Kept (fun k => k = R ∨ k = S) w w' ∧ A ≠ none ∧ (∀ a, A = some a → ¬ (a.block = R ∨ a.block = S)) := by
  obtain ⟨iU, u1, u2, u3, u4⟩ := info_parts infoU8
  have hS := h.blk
  obtain ⟨y0, y1, y2, y3, hS⟩ := hS
  obtain ⟨pr, hR⟩ := h.rd.blk
  obtain ⟨r, hD⟩ := h.rd.data
  have lS := hS.lt
  have lR := hR.lt
  have lD := hD.lt
  clear hS hR hD
  rcases Nat.eq_zero_or_pos n with h0 | h0
  · subst h0
    have H := Lib.hid h
    clear h
    go_enter Tryz.func271, Tryz.ntmps271
    go_wp2_with (first
      | (at_make; refine wpList_make_blk rfl (.tmp 9) (.tmp 9) 27 rfl 5 iU (.int .u8 0) 1 undU8s u1 u2 u3 .i64 .i64 _ _ 0 rfl rfl (by omega) (by omega) (by rw [u4]; omega) (by unfold maxLen; omega) ?_; intro w1 hbk hk hsz)
      | (go_at_call 273; refine (baRead_zero S R D C bs off _ 0 w1 (H.out.mild hk) hb hSR hSD).mono ?_; rintro ed w2 ⟨rfl, h1, h2⟩))
    go_ret2
    refine ⟨_, 0, rfl, ⟨by simp, Nat.le_refl _, by simp, fun h => absurd h (by omega)⟩, h1, Kept.then (hk.mono (fun _ _ => False.elim)) h2 (fun k _ h => .inr h), by simp, ?_⟩
    intro a ha
    cases ha
    simp; omega
  · have H := Lib.hid h
    clear h
    have i0 : ((n : Int)) ≤ 1000000000 := by omega
    go_enter Tryz.func271, Tryz.ntmps271
    go_wp2_with (first
      | (at_make; refine wpList_make_blk rfl (.tmp 9) (.tmp 9) 27 rfl 5 iU (.int .u8 0) 1 undU8s u1 u2 u3 .i64 .i64 _ _ n rfl rfl (by omega) (by omega) (by rw [u4]; omega) (by unfold maxLen; omega) ?_; intro w1 hbk hk hsz)
      | (go_at_call 273; refine (baRead_far S R D C bs off w.heap.size 0 n n _ _ w1 (H.out.mild hk) h0 hle hb hbk (by rw [made_length]; omega) (by omega) (by omega) (by omega) hSR hSD hRD (Nat.le_refl _)).mono ?_; rintro ed w2 ⟨rfl, h1, h2, h3⟩))
    go_ret2
    have hll : ((bs.drop off).take n).length = n := by simp; omega
    have e : splice (madeCells (Value.int IntKind.u8 0).cells (n * 1)).toList 0 (u8s ((bs.drop off).take n)) = u8s ((bs.drop off).take n) := splice_whole _ _ (by rw [made_length]; simp; omega)
    rw [e] at h2
    refine ⟨_, n, rfl, ⟨hll, Nat.le_refl _, fun b hb' => hby b (List.mem_of_mem_drop (List.mem_of_mem_take hb')), fun _ => ⟨w.heap.size, 0, rfl, fun j x hx => ?_⟩⟩, h1, Kept.then (hk.mono (fun _ _ => False.elim)) h3 (fun k hk' h => ?_), by simp, ?_⟩
    · rw [Nat.zero_add]; exact (h2.cell j).trans (u8s_at hx)
    · rcases h with h | h | h
      · omega
      · exact .inl h
      · exact .inr h
    · intro a ha
      cases ha
      simp; omega

theorem baNext_int (S R D C : Nat) (bs : List Nat) (off n : Nat) (X : Int) (w : World) (hX : X = (n : Int)) (h : StrA w S R D C bs off) (hle : off + n ≤ bs.length) (hb : bs.length ≤ 1000000000) (hby : ∀ b ∈ bs, b < 256)
    (hSR : S ≠ R) (hSD : S ≠ D) (hRD : R ≠ D) :
    Calls Tryz.prog 271 #[.pointer (some ⟨S, 0, none⟩), .int .i64 X] w fun e w' => ∃ A c, e = .returned (.tuple #[.slice A n c, .nilIface]) ∧
      RB w' A n c ((bs.drop off).take n) ∧ StrA w' S R D C bs (off + n) ∧ Kept (fun k => k = R ∨ k = S) w w' ∧ A ≠ none ∧ (∀ a, A = some a → ¬ (a.block = R ∨ a.block = S)) := by
  subst hX; exact baNext_any S R D C bs off n w h hle hb hby hSR hSD hRD

set_option maxRecDepth 100000 in
set_option maxHeartbeats 1000000 in
theorem baSkip_any (S R D C : Nat) (bs : List Nat) (off n : Nat) (w : World) (h : StrA w S R D C bs off) (hle : off + n ≤ bs.length) (hb : bs.length ≤ 1000000000) (hby : ∀ b ∈ bs, b < 256)
    (hSR : S ≠ R) (hSD : S ≠ D) (hRD : R ≠ D) :
    Calls Tryz.prog 276 #[.pointer (some ⟨S, 0, none⟩), .int .i64 (n : Int)] w fun e w' => e = .returned .nilIface ∧ StrA w' S R D C bs (off + n) ∧ Kept (fun k => k = R ∨ k = S) w w' := by
  have H := Lib.hid (baNext_any S R D C bs off n w h hle hb hby hSR hSD hRD)
  clear h hby
  go_enter Tryz.func276, Tryz.ntmps276
  go_wp2_with (go_at_call 271; refine H.out.mono ?_; rintro ed w2 ⟨A, c, rfl, _, h1, h2, _⟩)
  go_ret
  exact ⟨rfl, h1, h2⟩

theorem baCount_any (S R D C : Nat) (bs : List Nat) (off : Nat) (w : World) (h : StrA w S R D C bs off) :
    Calls Tryz.prog 270 #[.pointer (some ⟨S, 0, none⟩)] w fun e w' => e = .returned (.int .i64 (off : Int)) ∧ w = w' := by
  obtain ⟨⟨x0, x1, x2, x3, hS⟩, hR⟩ := h
  have f1 := hS.cell 1
  clear hS hR
  go_enter Tryz.func270, Tryz.ntmps270
  go_wp2
  go_ret
  exact ⟨rfl, rfl⟩
theorem baSafe_any (S : Nat) (w : World) :
    Calls Tryz.prog 272 #[.pointer (some ⟨S, 0, none⟩)] w fun e w' => e = .returned (.bool true) ∧ w = w' := by
  go_enter Tryz.func272, Tryz.ntmps272
  go_wp2
  go_ret
  exact ⟨rfl, rfl⟩

set_option maxRecDepth 100000 in
set_option maxHeartbeats 1000000 in
theorem baU16_any (S R D C : Nat) (bs : List Nat) (off : Nat) (b0 b1 : Nat) (w : World) (h : StrA w S R D C bs off) (hle : off + 2 ≤ bs.length) (hb : bs.length ≤ 1000000000)
    (e0 : bs[off]? = some b0) (e1 : bs[off + 1]? = some b1) (d0 : b0 < 256) (d1 : b1 < 256) (hSR : S ≠ R) (hSD : S ≠ D) (hRD : R ≠ D) :
    Calls Tryz.prog 274 #[.pointer (some ⟨S, 0, none⟩)] w fun e w' => e = .returned (.tuple #[.int .u16 (leN [b0, b1] : Nat), .nilIface]) ∧ StrA w' S R D C bs (off + 2) ∧ Kept (fun k => k = R ∨ k = S) w w' := by
  have H := Lib.hid (baRead_near S R D C bs off 2 w h (by omega) (by omega) hle hb hSR hSD hRD)
  have E0 := Lib.hid e0
  have E1 := Lib.hid e1
  clear h e0 e1
  go_enter Tryz.func274, Tryz.ntmps274
  go_wp2_with (first
    | (go_at_call 273; refine H.out.mono ?_; rintro ed w2 ⟨rfl, h1, h2, h3⟩; have c0 := h2 0 b0 (by omega) E0.out; have c1 := h2 1 b1 (by omega) E1.out)
    | (go_at_call 74; refine (le16_any S 2 2 4 b0 b1 w2 (by omega) c0 c1 d0 d1).mono ?_; rintro ed w3 ⟨rfl, h4⟩))
  go_ret2
  exact ⟨rfl, h1.mild h4, h3.trans (h4.mono (fun _ _ => False.elim))⟩

set_option maxRecDepth 100000 in
set_option maxHeartbeats 1000000 in
theorem baU32_any (S R D C : Nat) (bs : List Nat) (off : Nat) (b0 b1 b2 b3 : Nat) (w : World) (h : StrA w S R D C bs off) (hle : off + 4 ≤ bs.length) (hb : bs.length ≤ 1000000000)
    (e0 : bs[off]? = some b0) (e1 : bs[off + 1]? = some b1) (e2 : bs[off + 2]? = some b2) (e3 : bs[off + 3]? = some b3) (d0 : b0 < 256) (d1 : b1 < 256) (d2 : b2 < 256) (d3 : b3 < 256) (hSR : S ≠ R) (hSD : S ≠ D) (hRD : R ≠ D) :
    Calls Tryz.prog 275 #[.pointer (some ⟨S, 0, none⟩)] w fun e w' => e = .returned (.tuple #[.int .u32 (leN [b0, b1, b2, b3] : Nat), .nilIface]) ∧ StrA w' S R D C bs (off + 4) ∧ Kept (fun k => k = R ∨ k = S) w w' := by
  have H := Lib.hid (baRead_near S R D C bs off 4 w h (by omega) (by omega) hle hb hSR hSD hRD)
  have E0 := Lib.hid e0
  have E1 := Lib.hid e1
  have E2 := Lib.hid e2
  have E3 := Lib.hid e3
  clear h e0 e1 e2 e3
  go_enter Tryz.func275, Tryz.ntmps275
  go_wp2_with (first
    | (go_at_call 273; refine H.out.mono ?_; rintro ed w2 ⟨rfl, h1, h2, h3⟩; have c0 := h2 0 b0 (by omega) E0.out; have c1 := h2 1 b1 (by omega) E1.out; have c2 := h2 2 b2 (by omega) E2.out; have c3 := h2 3 b3 (by omega) E3.out)
    | (go_at_call 60; refine (le32_any S 2 4 4 b0 b1 b2 b3 w2 (by omega) c0 c1 c2 c3 d0 d1 d2 d3).mono ?_; rintro ed w3 ⟨rfl, h4⟩))
  go_ret2
  exact ⟨rfl, h1.mild h4, h3.trans (h4.mono (fun _ _ => False.elim))⟩
end Go.Proofs

namespace Go.Proofs
open Go.RowKit Go.Roar

theorem new_any (w : World) :
    Calls Tryz.prog 27 #[] w fun e w' => e = .returned (.pointer (some ⟨w.heap.size, 0, none⟩)) ∧ Blk w' w.heap.size 81 [.slice none 0 0, .slice none 0 0, .slice none 0 0, .bool false] ∧ Mild w w' := by
  go_enter Tryz.func27, Tryz.ntmps27
  go_wp2
  go_ret
  exact ⟨rfl, Blk.new w _ _, (Kept.refl _ _).alloc _⟩

theorem newReader_any (D C : Nat) (bs : List Nat) (w : World) (h : ∃ r, Blk w D 5 (u8s bs ++ r)) (hC : bs.length ≤ C) :
    Calls Tryz.prog 29 #[.slice (some ⟨D, 0, none⟩) bs.length C] w fun e w' => e = .returned (.pointer (some ⟨w.heap.size, 0, none⟩)) ∧ RdA w' w.heap.size D C bs 0 ∧ Mild w w' := by
  obtain ⟨r, h⟩ := h
  have H := Lib.hid h
  clear h
  go_enter Tryz.func29, Tryz.ntmps29
  go_wp2
  go_ret
  exact ⟨rfl, ⟨⟨-1, Blk.new w _ _⟩, ⟨r, H.out.alloc _⟩, Nat.zero_le _, hC⟩, (Kept.refl _ _).alloc _⟩

theorem newInput_any (R D C : Nat) (bs : List Nat) (w : World) (h : RdA w R D C bs 0) :
    Calls Tryz.prog 38 #[.iface 70 (.pointer (some ⟨R, 0, none⟩))] w fun e w' => e = .returned (.iface 121 (.pointer (some ⟨w.heap.size, 0, none⟩))) ∧ StrA w' w.heap.size R D C bs 0 ∧ Mild w w' := by
  have H := Lib.hid h
  clear h
  go_enter Tryz.func38, Tryz.ntmps38
  go_wp2
  go_ret
  exact ⟨rfl, ⟨⟨_, _, _, _, Blk.new w _ _⟩, H.out.kept (S := fun _ => False) ((Kept.refl _ _).alloc _) id id⟩, (Kept.refl _ _).alloc _⟩

set_option maxRecDepth 100000 in
set_option maxHeartbeats 1000000 in
theorem clone_any (g o c : Nat) (bs : List Nat) (w : World) (h : RB w (some ⟨g, o, none⟩) bs.length c bs) (h0 : 0 < bs.length) (hb : bs.length ≤ 1000000000) :
    Calls Tryz.prog 19 #[.slice (some ⟨g, o, none⟩) bs.length c] w fun e w' => ∃ D C, e = .returned (.slice (some ⟨D, 0, none⟩) bs.length C) ∧ (∃ r, Blk w' D 5 (u8s bs ++ r)) ∧ bs.length ≤ C ∧ Mild w w' ∧ w.heap.size ≤ D := by
  obtain ⟨iU, u1, u2, u3, u4⟩ := info_parts infoU8
  have E1 := fun (W : World) => Lib.run_eql_slice_nil (P := Tryz.prog) W 27 5 (some ⟨g, o, none⟩) bs.length c 0 0 undU8s
  have hcell := Lib.hid (show ∀ (j x : Nat), bs[j]? = some x → w.cell? ⟨g, o + j, none⟩ = some (.int .u8 (x : Int)) from by
    obtain ⟨g', o', e, hc⟩ := h.2.2.2 h0
    cases e
    exact hc)
  clear h
  have m0 : Mild w (w.alloc (.cells #[] 5)) := (Kept.refl _ _).alloc _
  have ow0 := (show Own (w.alloc (.cells #[] 5)) 1 5 (.slice (some ⟨w.heap.size, 0, none⟩) 0 0) 0 [] from ⟨rfl, .inr ⟨w.heap.size, 0, [], rfl, rfl, by unfold maxLen; omega, Blk.new w _ []⟩⟩).toRow
  have hN : ∀ (j : Nat) (u : Value), (u8s bs)[j]? = some u → (w.alloc (.cells #[] 5)).cell? ((⟨g, o, none⟩ : Addr).add j) = some u := by
    intro j u hj
    unfold u8s at hj
    rw [List.getElem?_map, Option.map_eq_some_iff] at hj
    obtain ⟨x, hx, rfl⟩ := hj
    have e : (⟨g, o, none⟩ : Addr).add j = ⟨g, o + j, none⟩ := by
      unfold Addr.add
      by_cases hj0 : j = 0
      · subst hj0; simp
      · simp [hj0]
    rw [e]
    exact m0.cell2 id (hcell.out j x hx)
  have hO : ∀ u ∈ u8s bs, u.oneCell' = true := by
    intro u hu
    unfold u8s at hu
    rw [List.mem_map] at hu
    obtain ⟨x, _, rfl⟩ := hu
    rfl
  have HN := Lib.hid hN
  have HO := Lib.hid hO
  have HW := Lib.hid ow0
  clear hN hO ow0
  go_enter Tryz.func19, Tryz.ntmps19
  go_wp2_with (first
    | (at_builtin; refine wpList_append_own_at _ rfl _ _ 27 rfl 0 5 iU (.int .u8 0) 1 1 undU8s u1 u2 u3 u4 rfl (by decide) _ 0 [] rfl HW.out ⟨g, o, none⟩ bs.length c (u8s bs) rfl (by simp) HN.out HO.out (by unfold maxLen; omega) (by omega) (Nat.zero_le _) ?_; intro v' w4 hown' hgrow hnil hat)
    )
  go_ret
  obtain ⟨D, k, r, rfl, hr, hm, hbk⟩ := (Own.ofRow hown').open (by omega)
  rw [List.nil_append] at hbk
  rw [Nat.zero_add] at *
  refine ⟨D, _, rfl, ⟨r, hbk⟩, Nat.le_add_right _ _, ?_, ?_⟩
  · exact Kept.then m0 (Kept.grown (S := fun b => b = w.heap.size) ((Kept.refl _ _)) hgrow (fun k hk _ => by simp [Value.ownBlock, Act.eval] at hk; omega)) (fun k hk h => by omega)
  · rcases hat with h | h
    · simp [Value.ownBlock, Act.eval] at h; omega
    · simp [Value.ownBlock] at h; omega

theorem notInput (v : Value) (xT : TypeId) (w : World) : (Instr.typeAssert (.iface 70 v) xT 91 true).run Tryz.prog w = .ok (.tuple #[.nilIface, .bool false]) w := run_typeAssert_lacksB Tryz.underlying91 (by kernel_rfl) (by kernel_rfl) v xT w

set_option maxRecDepth 100000 in
set_option maxHeartbeats 1000000 in
theorem bmReadFrom_any (p R D C : Nat) (bs : List Nat) (n : Nat) (Q : World → Prop) (w : World) (h : RdA w R D C bs 0)
    (H : ∀ w1, StrA w1 w.heap.size R D C bs 0 → Mild w w1 → Calls Tryz.prog 39 #[.pointer (some ⟨p, 0, none⟩), .iface 121 (.pointer (some ⟨w.heap.size, 0, none⟩)), .slice none 0 0] w1 fun e w' => e = .returned (.tuple #[.int .i64 (n : Int), .nilIface]) ∧ Q w') :
    Calls Tryz.prog 28 #[.pointer (some ⟨p, 0, none⟩), .iface 70 (.pointer (some ⟨R, 0, none⟩)), .slice none 0 0] w fun e w' => e = .returned (.tuple #[.int .i64 (n : Int), .nilIface]) ∧ Q w' := by
  have C1 := Lib.hid (newInput_any R D C bs w h)
  have H1 := Lib.hid H
  have N := notInput
  clear h H
  go_enter Tryz.func28, Tryz.ntmps28
  go_wp2_with (first
    | (go_at_call 38; refine C1.out.mono ?_; rintro ed w1 ⟨rfl, s1, k1⟩)
    | (go_at_call 39; refine (H1.out w1 s1 k1).mono ?_; rintro ed w2 ⟨rfl, q2⟩))
  go_ret2
  exact ⟨rfl, q2⟩

end Go.Proofs
