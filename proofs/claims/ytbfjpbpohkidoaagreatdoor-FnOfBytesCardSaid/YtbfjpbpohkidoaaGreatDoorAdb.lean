/-
  ByteInputAdapter over a bytes.Reader: Next, SkipBytes, ReadUInt32, ReadUInt16, GetReadBytes, NextReturnsSafeSlice.
-/
import Derived.Test.YtbfjpbpohkidoaaGreatDoorAda
namespace Go.Proofs
open Go.RowKit Go.Roar

theorem infoU8 : (Tryz.prog.info? 5).map (fun i => (i.zero, i.size, i.bytes)) = some (some (.int .u8 0), 1, 1) := by kernel_rfl

set_option maxRecDepth 100000 in
set_option maxHeartbeats 1000000 in
theorem baNext_any (S R D C : Nat) (bs : List Nat) (off n : Nat) (w : World) (h : StrA w S R D C bs off) (hle : off + n ≤ bs.length) (hb : bs.length ≤ 1000000000) (hby : ∀ b ∈ bs, b < 256)
    (hSR : S ≠ R) (hSD : S ≠ D) (hRD : R ≠ D) :
    Calls Tryz.prog 67 #[.pointer (some ⟨S, 0, none⟩), .int .i64 (n : Int)] w fun e w' => ∃ A c, e = .returned (.tuple #[.slice A n c, .nilIface]) ∧
      RB w' A n c ((bs.drop off).take n) ∧ StrA w' S R D C bs (off + n) ∧ Kept (fun k => k = R ∨ k = S) w w' ∧ A ≠ none ∧ (∀ a, A = some a → ¬ (a.block = R ∨ a.block = S)) := by
  obtain ⟨iU, u1, u2, u3, u4⟩ := info_parts infoU8
  have hS := h.blk
  obtain ⟨y0, y1, y2, y3, hS⟩ := hS
  obtain ⟨pr, hR⟩ := h.rd.blk
  obtain ⟨r, hD⟩ := h.rd.data
  have lS := hS.lt
  have lR := hR.lt
  have lD := hD.lt
  clear hS hR hD
  rcases Nat.eq_zero_or_pos n with h0 | h0
  · subst h0
    have H := Lib.hid h
    clear h
    go_enter Tryz.func67, Tryz.ntmps67
    go_wp2_with (first
      | (at_make; refine wpList_make_blk rfl (.tmp 9) (.tmp 9) 34 rfl 5 iU (.int .u8 0) 1 undU8s u1 u2 u3 .i64 .i64 _ _ 0 rfl rfl (by omega) (by omega) (by rw [u4]; omega) (by unfold maxLen; omega) ?_; intro w1 hbk hk hsz)
      | (go_at_call 69; refine (baRead_zero S R D C bs off _ 0 w1 (H.out.mild hk) hb hSR hSD).mono ?_; rintro ed w2 ⟨rfl, h1, h2⟩))
    go_ret2
    refine ⟨_, 0, rfl, ⟨by simp, Nat.le_refl _, by simp, fun h => absurd h (by omega)⟩, h1, Kept.then (hk.mono (fun _ _ => False.elim)) h2 (fun k _ h => .inr h), by simp, ?_⟩
    intro a ha
    cases ha
    simp; omega
  · have H := Lib.hid h
    clear h
    have i0 : ((n : Int)) ≤ 1000000000 := by omega
    go_enter Tryz.func67, Tryz.ntmps67
    go_wp2_with (first
      | (at_make; refine wpList_make_blk rfl (.tmp 9) (.tmp 9) 34 rfl 5 iU (.int .u8 0) 1 undU8s u1 u2 u3 .i64 .i64 _ _ n rfl rfl (by omega) (by omega) (by rw [u4]; omega) (by unfold maxLen; omega) ?_; intro w1 hbk hk hsz)
      | (go_at_call 69; refine (baRead_far S R D C bs off w.heap.size 0 n n _ _ w1 (H.out.mild hk) h0 hle hb hbk (by rw [made_length]; omega) (by omega) (by omega) (by omega) hSR hSD hRD (Nat.le_refl _)).mono ?_; rintro ed w2 ⟨rfl, h1, h2, h3⟩))
    go_ret2
    have hll : ((bs.drop off).take n).length = n := by simp; omega
    have e : splice (madeCells (Value.int IntKind.u8 0).cells (n * 1)).toList 0 (u8s ((bs.drop off).take n)) = u8s ((bs.drop off).take n) := splice_whole _ _ (by rw [made_length]; simp; omega)
    rw [e] at h2
    refine ⟨_, n, rfl, ⟨hll, Nat.le_refl _, fun b hb' => hby b (List.mem_of_mem_drop (List.mem_of_mem_take hb')), fun _ => ⟨w.heap.size, 0, rfl, fun j x hx => ?_⟩⟩, h1, Kept.then (hk.mono (fun _ _ => False.elim)) h3 (fun k hk' h => ?_), by simp, ?_⟩
    · rw [Nat.zero_add]; exact (h2.cell j).trans (u8s_at hx)
    · rcases h with h | h | h
      · omega
      · exact .inl h
      · exact .inr h
    · intro a ha
      cases ha
      simp; omega

theorem baNext_int (S R D C : Nat) (bs : List Nat) (off n : Nat) (X : Int) (w : World) (hX : X = (n : Int)) (h : StrA w S R D C bs off) (hle : off + n ≤ bs.length) (hb : bs.length ≤ 1000000000) (hby : ∀ b ∈ bs, b < 256)
    (hSR : S ≠ R) (hSD : S ≠ D) (hRD : R ≠ D) :
    Calls Tryz.prog 67 #[.pointer (some ⟨S, 0, none⟩), .int .i64 X] w fun e w' => ∃ A c, e = .returned (.tuple #[.slice A n c, .nilIface]) ∧
      RB w' A n c ((bs.drop off).take n) ∧ StrA w' S R D C bs (off + n) ∧ Kept (fun k => k = R ∨ k = S) w w' ∧ A ≠ none ∧ (∀ a, A = some a → ¬ (a.block = R ∨ a.block = S)) := by
  subst hX; exact baNext_any S R D C bs off n w h hle hb hby hSR hSD hRD

set_option maxRecDepth 100000 in
set_option maxHeartbeats 1000000 in
theorem baSkip_any (S R D C : Nat) (bs : List Nat) (off n : Nat) (w : World) (h : StrA w S R D C bs off) (hle : off + n ≤ bs.length) (hb : bs.length ≤ 1000000000) (hby : ∀ b ∈ bs, b < 256)
    (hSR : S ≠ R) (hSD : S ≠ D) (hRD : R ≠ D) :
    Calls Tryz.prog 72 #[.pointer (some ⟨S, 0, none⟩), .int .i64 (n : Int)] w fun e w' => e = .returned .nilIface ∧ StrA w' S R D C bs (off + n) ∧ Kept (fun k => k = R ∨ k = S) w w' := by
  have H := Lib.hid (baNext_any S R D C bs off n w h hle hb hby hSR hSD hRD)
  clear h hby
  go_enter Tryz.func72, Tryz.ntmps72
  go_wp2_with (go_at_call 67; refine H.out.mono ?_; rintro ed w2 ⟨A, c, rfl, _, h1, h2, _⟩)
  go_ret
  exact ⟨rfl, h1, h2⟩

theorem baCount_any (S R D C : Nat) (bs : List Nat) (off : Nat) (w : World) (h : StrA w S R D C bs off) :
    Calls Tryz.prog 66 #[.pointer (some ⟨S, 0, none⟩)] w fun e w' => e = .returned (.int .i64 (off : Int)) ∧ w = w' := by
  obtain ⟨⟨x0, x1, x2, x3, hS⟩, hR⟩ := h
  have f1 := hS.cell 1
  clear hS hR
  go_enter Tryz.func66, Tryz.ntmps66
  go_wp2
  go_ret
  exact ⟨rfl, rfl⟩
theorem baSafe_any (S : Nat) (w : World) :
    Calls Tryz.prog 68 #[.pointer (some ⟨S, 0, none⟩)] w fun e w' => e = .returned (.bool true) ∧ w = w' := by
  go_enter Tryz.func68, Tryz.ntmps68
  go_wp2
  go_ret
  exact ⟨rfl, rfl⟩

set_option maxRecDepth 100000 in
set_option maxHeartbeats 1000000 in
theorem baU16_any (S R D C : Nat) (bs : List Nat) (off : Nat) (b0 b1 : Nat) (w : World) (h : StrA w S R D C bs off) (hle : off + 2 ≤ bs.length) (hb : bs.length ≤ 1000000000)
    (e0 : bs[off]? = some b0) (e1 : bs[off + 1]? = some b1) (d0 : b0 < 256) (d1 : b1 < 256) (hSR : S ≠ R) (hSD : S ≠ D) (hRD : R ≠ D) :
    Calls Tryz.prog 70 #[.pointer (some ⟨S, 0, none⟩)] w fun e w' => e = .returned (.tuple #[.int .u16 (leN [b0, b1] : Nat), .nilIface]) ∧ StrA w' S R D C bs (off + 2) ∧ Kept (fun k => k = R ∨ k = S) w w' := by
  have H := Lib.hid (baRead_near S R D C bs off 2 w h (by omega) (by omega) hle hb hSR hSD hRD)
  have E0 := Lib.hid e0
  have E1 := Lib.hid e1
  clear h e0 e1
  go_enter Tryz.func70, Tryz.ntmps70
  go_wp2_with (first
    | (go_at_call 69; refine H.out.mono ?_; rintro ed w2 ⟨rfl, h1, h2, h3⟩; have c0 := h2 0 b0 (by omega) E0.out; have c1 := h2 1 b1 (by omega) E1.out)
    | (go_at_call 33; refine (le16_any S 2 2 4 b0 b1 w2 (by omega) c0 c1 d0 d1).mono ?_; rintro ed w3 ⟨rfl, h4⟩))
  go_ret2
  exact ⟨rfl, h1.mild h4, h3.trans (h4.mono (fun _ _ => False.elim))⟩

set_option maxRecDepth 100000 in
set_option maxHeartbeats 1000000 in
theorem baU32_any (S R D C : Nat) (bs : List Nat) (off : Nat) (b0 b1 b2 b3 : Nat) (w : World) (h : StrA w S R D C bs off) (hle : off + 4 ≤ bs.length) (hb : bs.length ≤ 1000000000)
    (e0 : bs[off]? = some b0) (e1 : bs[off + 1]? = some b1) (e2 : bs[off + 2]? = some b2) (e3 : bs[off + 3]? = some b3) (d0 : b0 < 256) (d1 : b1 < 256) (d2 : b2 < 256) (d3 : b3 < 256) (hSR : S ≠ R) (hSD : S ≠ D) (hRD : R ≠ D) :
    Calls Tryz.prog 71 #[.pointer (some ⟨S, 0, none⟩)] w fun e w' => e = .returned (.tuple #[.int .u32 (leN [b0, b1, b2, b3] : Nat), .nilIface]) ∧ StrA w' S R D C bs (off + 4) ∧ Kept (fun k => k = R ∨ k = S) w w' := by
  have H := Lib.hid (baRead_near S R D C bs off 4 w h (by omega) (by omega) hle hb hSR hSD hRD)
  have E0 := Lib.hid e0
  have E1 := Lib.hid e1
  have E2 := Lib.hid e2
  have E3 := Lib.hid e3
  clear h e0 e1 e2 e3
  go_enter Tryz.func71, Tryz.ntmps71
  go_wp2_with (first
    | (go_at_call 69; refine H.out.mono ?_; rintro ed w2 ⟨rfl, h1, h2, h3⟩; have c0 := h2 0 b0 (by omega) E0.out; have c1 := h2 1 b1 (by omega) E1.out; have c2 := h2 2 b2 (by omega) E2.out; have c3 := h2 3 b3 (by omega) E3.out)
    | (go_at_call 28; refine (le32_any S 2 4 4 b0 b1 b2 b3 w2 (by omega) c0 c1 c2 c3 d0 d1 d2 d3).mono ?_; rintro ed w3 ⟨rfl, h4⟩))
  go_ret2
  exact ⟨rfl, h1.mild h4, h3.trans (h4.mono (fun _ _ => False.elim))⟩
end Go.Proofs
