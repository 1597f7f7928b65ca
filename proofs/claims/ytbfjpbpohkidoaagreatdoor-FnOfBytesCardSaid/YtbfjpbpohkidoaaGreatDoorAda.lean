/-
  ByteInputAdapter over a bytes.Reader: Read, Next, SkipBytes, ReadUInt32, ReadUInt16.
-/
import Derived.Test.YtbfjpbpohkidoaaGreatDoorRal
namespace Go.Roar
open Go.RowKit
/-- The adapter S over the reader R over the bytes in block D. -/
structure StrA (w : World) (S R D C : Nat) (bs : List Nat) (off : Nat) : Prop where
  blk : ∃ x0 x1 x2 x3, Blk w S 91 [.iface 55 (.pointer (some ⟨R, 0, none⟩)), .int .i64 (off : Int), x0, x1, x2, x3]
  rd : RdA w R D C bs off
theorem StrA.kept {T : Nat → Prop} {w w' : World} {S R D C : Nat} {bs : List Nat} {off : Nat} (h : StrA w S R D C bs off) (k : Kept T w w') (h0 : ¬ T S) (h1 : ¬ T R) (h2 : ¬ T D) : StrA w' S R D C bs off := by
  obtain ⟨⟨x0, x1, x2, x3, a⟩, b⟩ := h
  exact ⟨⟨x0, x1, x2, x3, a.kept k h0⟩, b.kept k h1 h2⟩
theorem StrA.mild {w w' : World} {S R D C : Nat} {bs : List Nat} {off : Nat} (h : StrA w S R D C bs off) (k : Mild w w') : StrA w' S R D C bs off := h.kept k id id id
end Go.Roar
namespace Go.Proofs
open Go.RowKit Go.Roar

set_option maxRecDepth 100000 in
set_option maxHeartbeats 1000000 in
/-- Read into a block of its own. -/
theorem baRead_far (S R D C : Nat) (bs : List Nat) (off : Nat) (G o n c : Nat) (t : TypeId) (cs : List Value) (w : World) (h : StrA w S R D C bs off) (hn : 0 < n) (hle : off + n ≤ bs.length) (hb : bs.length ≤ 1000000000)
    (hG : Blk w G t cs) (hfit : o + n ≤ cs.length) (hGS : G ≠ S) (hGR : G ≠ R) (hGD : G ≠ D) (hSR : S ≠ R) (hSD : S ≠ D) (hRD : R ≠ D) (hnc : n ≤ c) :
    Calls Tryz.prog 69 #[.pointer (some ⟨S, 0, none⟩), .slice (some ⟨G, o, none⟩) n c] w fun e w' => e = .returned (.tuple #[.int .i64 (n : Int), .nilIface]) ∧
      StrA w' S R D C bs (off + n) ∧ Blk w' G t (splice cs o (u8s ((bs.drop off).take n))) ∧ Kept (fun k => k = G ∨ k = R ∨ k = S) w w' := by
  obtain ⟨⟨x0, x1, x2, x3, hS⟩, hR⟩ := h
  have f0 := hS.cell 0
  have H := Lib.hid (ral_any R D C bs off G o n c t cs w hR hn hle hb hG hfit hGR hGD hRD hnc)
  have HS := Lib.hid hS
  clear hS hR hG
  go_enter Tryz.func69, Tryz.ntmps69
  go_wp2_with (go_at_call 73; refine H.out.mono ?_; rintro ed w2 ⟨rfl, h1, h2, h3⟩; have hS2 := HS.out.kept h3 (by intro h; rcases h with h | h; exact hGS h.symm; exact hSR h); have g1 := hS2.cell 1; have gf := fun o => hS2.free o)
  go_ret2
  refine ⟨rfl, ⟨⟨x0, x1, x2, x3, ?_⟩, ?_⟩, h2.set_ne hGS _ _, (h3.mono (by intro k _ h; rcases h with h | h; exact .inl h; exact .inr (.inl h))).setCell (p := ⟨S, 1, none⟩) (fun _ => .inr (.inr rfl)) _⟩
  · have := hS2.set 1 (.int .i64 ((off : Int) + n))
    simpa using this
  · exact h1.kept (Kept.one _ S 1 _) (Ne.symm hSR) (Ne.symm hSD)

theorem baRead_zero (S R D C : Nat) (bs : List Nat) (off : Nat) (A : Option Addr) (c : Nat) (w : World) (h : StrA w S R D C bs off) (hb : bs.length ≤ 1000000000) (hSR : S ≠ R) (hSD : S ≠ D) :
    Calls Tryz.prog 69 #[.pointer (some ⟨S, 0, none⟩), .slice A 0 c] w fun e w' => e = .returned (.tuple #[.int .i64 0, .nilIface]) ∧
      StrA w' S R D C bs off ∧ Kept (fun k => k = S) w w' := by
  obtain ⟨⟨x0, x1, x2, x3, hS⟩, hR⟩ := h
  have hle := hR.le
  have f0 := hS.cell 0
  have f1 := hS.cell 1
  have ff := fun o => hS.free o
  have H := Lib.hid (ral_zero R A c w)
  have HS := Lib.hid hS
  have HR := Lib.hid hR
  clear hS hR
  go_enter Tryz.func69, Tryz.ntmps69
  go_wp2_with (go_at_call 73; refine H.out.mono ?_; rintro ed w2 ⟨rfl, rfl⟩)
  go_ret2
  have K : Kept (fun k => k = S) w (w.setCell ⟨S, 1, none⟩ (.int .i64 (off : Int))) := Kept.one _ _ _ _
  refine ⟨rfl, ⟨⟨x0, x1, x2, x3, ?_⟩, HR.out.kept K (Ne.symm hSR) (Ne.symm hSD)⟩, K⟩
  have := HS.out.set 1 (.int .i64 (off : Int))
  simpa using this

set_option maxRecDepth 100000 in
set_option maxHeartbeats 1000000 in
/-- Read into the adapter's own four bytes. -/
theorem baRead_near (S R D C : Nat) (bs : List Nat) (off : Nat) (n : Nat) (w : World) (h : StrA w S R D C bs off) (hn : 0 < n) (hn4 : n ≤ 4) (hle : off + n ≤ bs.length) (hb : bs.length ≤ 1000000000)
    (hSR : S ≠ R) (hSD : S ≠ D) (hRD : R ≠ D) :
    Calls Tryz.prog 69 #[.pointer (some ⟨S, 0, none⟩), .slice (some ⟨S, 2, none⟩) n 4] w fun e w' => e = .returned (.tuple #[.int .i64 (n : Int), .nilIface]) ∧
      StrA w' S R D C bs (off + n) ∧ (∀ (j x : Nat), j < n → bs[off + j]? = some x → w'.cell? ⟨S, 2 + j, none⟩ = some (.int .u8 (x : Int))) ∧ Kept (fun k => k = R ∨ k = S) w w' := by
  obtain ⟨⟨x0, x1, x2, x3, hS⟩, hR⟩ := h
  have f0 := hS.cell 0
  have hbl : (u8s ((bs.drop off).take n)).length = n := by simp; omega
  have H := Lib.hid (ral_any R D C bs off S 2 n 4 _ _ w hR hn hle hb hS (by simp; omega) hSR hSD hRD hn4)
  have hat : ∀ (j x : Nat), j < n → bs[off + j]? = some x → (splice [.iface 55 (.pointer (some ⟨R, 0, none⟩)), .int .i64 (off : Int), x0, x1, x2, x3] 2 (u8s ((bs.drop off).take n)))[2 + j]? = some (.int .u8 (x : Int)) := by
    intro j x hj hx
    unfold splice
    rw [List.getElem?_append_right (by simp)]
    simp only [List.take_succ_cons, List.take_zero, List.length_cons, List.length_nil]
    rw [show 2 + j - (0 + 1 + 1) = j by omega, List.getElem?_append_left (by rw [hbl]; exact hj)]
    exact u8s_at (by rw [List.getElem?_take_of_lt hj, List.getElem?_drop]; exact hx)
  have h01 : ∃ y0 y1 y2 y3, splice [.iface 55 (.pointer (some ⟨R, 0, none⟩)), .int .i64 (off : Int), x0, x1, x2, x3] 2 (u8s ((bs.drop off).take n)) = [.iface 55 (.pointer (some ⟨R, 0, none⟩)), .int .i64 (off : Int), y0, y1, y2, y3] := by
    have hl : (splice [.iface 55 (.pointer (some ⟨R, 0, none⟩)), .int .i64 (off : Int), x0, x1, x2, x3] 2 (u8s ((bs.drop off).take n))).length = 6 := by
      rw [splice_len _ _ _ (by rw [hbl]; simp; omega)]; rfl
    unfold splice at hl ⊢
    simp only [List.take_succ_cons, List.take_zero, List.cons_append, List.nil_append, List.length_cons] at hl ⊢
    generalize u8s ((bs.drop off).take n) ++ _ = l at *
    match l, hl with
    | [y0, y1, y2, y3], _ => exact ⟨y0, y1, y2, y3, rfl⟩
  have Hat := Lib.hid hat
  obtain ⟨y0, y1, y2, y3, h01⟩ := h01
  have H01 := Lib.hid h01
  clear hS hR hat hbl h01
  go_enter Tryz.func69, Tryz.ntmps69
  go_wp2_with (go_at_call 73; refine H.out.mono ?_; rintro ed w2 ⟨rfl, h1, h2, h3⟩; rw [H01.out] at h2; have g1 := h2.cell 1; have gf := fun o => h2.free o)
  go_ret2
  refine ⟨rfl, ⟨⟨y0, y1, y2, y3, ?_⟩, ?_⟩, ?_, (h3.mono (by intro k _ h; rcases h with h | h; exact .inr h; exact .inl h)).setCell (p := ⟨S, 1, none⟩) (fun _ => .inr rfl) _⟩
  · have := h2.set 1 (.int .i64 ((off : Int) + n))
    simpa using this
  · exact h1.kept (Kept.one _ S 1 _) (Ne.symm hSR) (Ne.symm hSD)
  · intro j x hj hx
    have := Hat.out j x hj hx
    rw [H01.out] at this
    have e := (h2.set 1 (.int .i64 ((off : Int) + n))).cell (2 + j)
    rw [e, List.getElem?_set_ne (by omega)]
    exact this
end Go.Proofs
