/-
  ByteBuffer: Next, SkipBytes, ReadUInt32, ReadUInt16, GetReadBytes, NextReturnsSafeSlice.
-/
import Derived.Test.YtbfjpbpohkidoaaGreatDoorRd
import Derived.Deep.RegionHeld3
namespace Go.Roar
open Go.RowKit
/-- The buffer S over the bytes in block D. -/
structure StrB (w : World) (S D C : Nat) (bs : List Nat) (off : Nat) : Prop where
  blk : Blk w S 133 [.slice (some ⟨D, 0, none⟩) bs.length C, .int .i64 (off : Int)]
  data : ∃ r, Blk w D 5 (u8s bs ++ r)
  le : off ≤ bs.length
  cap : bs.length ≤ C
theorem StrB.kept {T : Nat → Prop} {w w' : World} {S D C : Nat} {bs : List Nat} {off : Nat} (h : StrB w S D C bs off) (k : Kept T w w') (h0 : ¬ T S) (h2 : ¬ T D) : StrB w' S D C bs off := by
  obtain ⟨a, ⟨r, b⟩, c, d⟩ := h
  exact ⟨a.kept k h0, ⟨r, b.kept k h2⟩, c, d⟩
theorem StrB.mild {w w' : World} {S D C : Nat} {bs : List Nat} {off : Nat} (h : StrB w S D C bs off) (k : Mild w w') : StrB w' S D C bs off := h.kept k id id
theorem StrB.at {w : World} {S D C : Nat} {bs : List Nat} {off : Nat} (h : StrB w S D C bs off) {j x : Nat} (hx : bs[j]? = some x) : w.cell? ⟨D, j, none⟩ = some (.int .u8 (x : Int)) := by
  obtain ⟨r, b⟩ := h.data
  exact (b.cell j).trans (by rw [List.getElem?_append_left (by simpa using (List.getElem?_eq_some_iff.1 hx).1)]; exact u8s_at hx)
theorem StrB.adv {w : World} {S D C : Nat} {bs : List Nat} {off : Nat} (h : StrB w S D C bs off) (n : Nat) (hle : off + n ≤ bs.length) (hSD : S ≠ D) : StrB (w.setCell ⟨S, 1, none⟩ (.int .i64 ((off : Int) + n))) S D C bs (off + n) := by
  obtain ⟨a, ⟨r, b⟩, c, d⟩ := h
  refine ⟨?_, ⟨r, b.set_ne (Ne.symm hSD) _ _⟩, hle, d⟩
  have := a.set 1 (.int .i64 ((off : Int) + n))
  simpa using this
theorem run_cut_both {P : Program} (w : World) {t e : TypeId} (ht : P.underlying t = some (.slice e)) (hs : (P.info? e).map (·.size) = some 1) (g o len cap l h : Nat) (k k' : IntKind) (j j' : Int) (hj : j = (l : Int)) (hj' : j' = (h : Int)) (hl : l ≤ h) (hh : h ≤ cap) :
    (Instr.slice t (.slice (some ⟨g, o, none⟩) len cap) (some (.int k j)) (some (.int k' j')) none).run P w = .ok (.slice (some (tlA g o l cap 1)) (h - l) (cap - l)) w := by
  subst hj hj'
  cases hq : P.info? e with
  | none => simp [hq] at hs
  | some i =>
    have hi : i.size = 1 := by simpa [hq] using hs
    simp only [Instr.slice, Sem.run_bind, run_underlying ht, Result.andThen_ok, Instr.sliceBounds, Instr.sliceBound]
    simp [sizeOf, typeInfo, hq, hl, hh, hi, asIntOf, go_sem]
    unfold tlA
    by_cases hc : cap = l
    · simp [hc]
    · simp only [hc, if_false]; simp
end Go.Roar
namespace Go.Proofs
open Go.RowKit Go.Roar

set_option maxRecDepth 100000 in
set_option maxHeartbeats 1000000 in
theorem bbNext_any (S D C : Nat) (bs : List Nat) (off n : Nat) (w : World) (h : StrB w S D C bs off) (hle : off + n ≤ bs.length) (hb : bs.length ≤ 1000000000) (hby : ∀ b ∈ bs, b < 256) (hSD : S ≠ D) :
    Calls Tryz.prog 60 #[.pointer (some ⟨S, 0, none⟩), .int .i64 (n : Int)] w fun e w' => ∃ A c, e = .returned (.tuple #[.slice A n c, .nilIface]) ∧
      RB w' A n c ((bs.drop off).take n) ∧ StrB w' S D C bs (off + n) ∧ Kept (fun k => k = S) w w' ∧ A ≠ none ∧ (∀ a, A = some a → ¬ a.block = S) := by
  have f0 := h.blk.cell 0
  have f1 := h.blk.cell 1
  have hC := h.cap
  have H := Lib.hid h
  have Hby := Lib.hid hby
  have r1 : IntKind.i64.wrap ((bs.length : Int) - off) = (bs.length : Int) - off := IntWalk.i64_in _ (by omega)
  have r2 : IntKind.i64.wrap ((off : Int) + n) = (off : Int) + n := IntWalk.i64_in _ (by omega)
  have s1 := fun (W : World) => run_cut_both (P := Tryz.prog) W undU8s szU8 D 0 bs.length C off (off + n) .i64 .i64 (off : Int) ((off : Int) + n) rfl (by omega) (by omega) (by omega)
  have l1 : off + n - off = n := by omega
  rw [l1] at s1
  clear h hby l1
  go_enter Tryz.func60, Tryz.ntmps60
  go_wp2
  go_quiet (fail)
  have H1 := H.out.mild ((Kept.refl _ w).drewN nq)
  have K1 : Mild w (w.drewN nq) := (Kept.refl _ w).drewN nq
  generalize w.drewN nq = W at *
  have g0 := H1.blk.cell 0
  have g1 := H1.blk.cell 1
  go_wp2
  go_quiet (fail)
  have H2 := H1.mild ((Kept.refl _ W).drewN nq)
  have K2 := K1.drewN nq
  generalize W.drewN nq = V at *
  have e0 := H2.blk.cell 0
  have e1 := H2.blk.cell 1
  have ef := fun o => H2.blk.free o
  go_wp2
  go_ret2
  have hle' := H2.le
  obtain ⟨gg, hgg⟩ : ∃ a : Addr, tlA D 0 off C 1 = a := ⟨_, rfl⟩
  refine ⟨_, C - off, rfl, ⟨by simp; omega, by omega, fun b hb' => Hby.out b (List.mem_of_mem_drop (List.mem_of_mem_take hb')), fun h0 => ⟨D, off, by rw [tlA_of (by omega)]; simp, fun j x hx => ?_⟩⟩, H2.adv n hle hSD, Mild.one K2 S 1 _, by simp, ?_⟩
  · have hj : j < n := by have := (List.getElem?_eq_some_iff.1 hx).1; simp at this; omega
    rw [List.getElem?_take_of_lt hj, List.getElem?_drop] at hx
    exact (H2.adv n hle hSD).at hx
  · intro a ha
    simp only [Option.some.injEq] at ha
    subst ha
    unfold tlA
    split <;> exact Ne.symm hSD

theorem bbNext_int (S D C : Nat) (bs : List Nat) (off n : Nat) (X : Int) (w : World) (hX : X = (n : Int)) (h : StrB w S D C bs off) (hle : off + n ≤ bs.length) (hb : bs.length ≤ 1000000000) (hby : ∀ b ∈ bs, b < 256) (hSD : S ≠ D) :
    Calls Tryz.prog 60 #[.pointer (some ⟨S, 0, none⟩), .int .i64 X] w fun e w' => ∃ A c, e = .returned (.tuple #[.slice A n c, .nilIface]) ∧
      RB w' A n c ((bs.drop off).take n) ∧ StrB w' S D C bs (off + n) ∧ Kept (fun k => k = S) w w' ∧ A ≠ none ∧ (∀ a, A = some a → ¬ a.block = S) := by
  subst hX; exact bbNext_any S D C bs off n w h hle hb hby hSD

set_option maxRecDepth 100000 in
set_option maxHeartbeats 1000000 in
theorem bbSkip_any (S D C : Nat) (bs : List Nat) (off n : Nat) (w : World) (h : StrB w S D C bs off) (hle : off + n ≤ bs.length) (hb : bs.length ≤ 1000000000) (hSD : S ≠ D) :
    Calls Tryz.prog 65 #[.pointer (some ⟨S, 0, none⟩), .int .i64 (n : Int)] w fun e w' => e = .returned .nilIface ∧ StrB w' S D C bs (off + n) ∧ Kept (fun k => k = S) w w' := by
  have f0 := h.blk.cell 0
  have f1 := h.blk.cell 1
  have H := Lib.hid h
  have r1 : IntKind.i64.wrap ((bs.length : Int) - off) = (bs.length : Int) - off := IntWalk.i64_in _ (by omega)
  clear h
  go_enter Tryz.func65, Tryz.ntmps65
  go_wp2
  go_quiet (fail)
  have H1 := H.out.mild ((Kept.refl _ w).drewN nq)
  have K1 : Mild w (w.drewN nq) := (Kept.refl _ w).drewN nq
  generalize w.drewN nq = W at *
  have g0 := H1.blk.cell 0
  have g1 := H1.blk.cell 1
  have gf := fun o => H1.blk.free o
  go_wp2
  go_ret
  exact ⟨rfl, H1.adv n hle hSD, Mild.one K1 S 1 _⟩

theorem bbCount_any (S D C : Nat) (bs : List Nat) (off : Nat) (w : World) (h : StrB w S D C bs off) :
    Calls Tryz.prog 59 #[.pointer (some ⟨S, 0, none⟩)] w fun e w' => e = .returned (.int .i64 (off : Int)) ∧ w = w' := by
  have f1 := h.blk.cell 1
  clear h
  go_enter Tryz.func59, Tryz.ntmps59
  go_wp2
  go_ret
  exact ⟨rfl, rfl⟩
theorem bbSafe_any (S : Nat) (w : World) :
    Calls Tryz.prog 61 #[.pointer (some ⟨S, 0, none⟩)] w fun e w' => e = .returned (.bool false) ∧ w = w' := by
  go_enter Tryz.func61, Tryz.ntmps61
  go_wp2
  go_ret
  exact ⟨rfl, rfl⟩

set_option maxRecDepth 100000 in
set_option maxHeartbeats 1000000 in
theorem bbU16_any (S D C : Nat) (bs : List Nat) (off : Nat) (b0 b1 : Nat) (w : World) (h : StrB w S D C bs off) (hle : off + 2 ≤ bs.length) (hb : bs.length ≤ 1000000000)
    (e0 : bs[off]? = some b0) (e1 : bs[off + 1]? = some b1) (d0 : b0 < 256) (d1 : b1 < 256) (hSD : S ≠ D) :
    Calls Tryz.prog 63 #[.pointer (some ⟨S, 0, none⟩)] w fun e w' => e = .returned (.tuple #[.int .u16 (leN [b0, b1] : Nat), .nilIface]) ∧ StrB w' S D C bs (off + 2) ∧ Kept (fun k => k = S) w w' := by
  have f0 := h.blk.cell 0
  have f1 := h.blk.cell 1
  have hC := h.cap
  have H := Lib.hid h
  have E0 := Lib.hid e0
  have E1 := Lib.hid e1
  have l1 : 2 ≤ bs.length - off := by omega
  have s1 := fun (W : World) => run_cut_from (P := Tryz.prog) W undU8s szU8 D 0 bs.length C off .i64 (off : Int) rfl (by omega) (by omega)
  have r1 : IntKind.i64.wrap ((bs.length : Int) - off) = (bs.length : Int) - off := IntWalk.i64_in _ (by omega)
  clear h e0 e1
  go_enter Tryz.func63, Tryz.ntmps63
  go_wp2
  go_quiet (fail)
  have H1 := H.out.mild ((Kept.refl _ w).drewN nq)
  have K1 : Mild w (w.drewN nq) := (Kept.refl _ w).drewN nq
  generalize w.drewN nq = W at *
  have g0 := H1.blk.cell 0
  have g1 := H1.blk.cell 1
  have c0 : W.drew.cell? ⟨D, off, none⟩ = some (.int .u8 (b0 : Int)) := H1.at E0.out
  have c1 : W.drew.cell? ⟨D, off + 1, none⟩ = some (.int .u8 (b1 : Int)) := H1.at E1.out
  simp only [Nat.zero_add] at s1
  clear f0 f1
  go_wp2_with fail
  go_region_held3 (fun w' => w'.cell? ⟨S, 0, none⟩ = some (.slice (some ⟨D, 0, none⟩) bs.length C) ∧ w'.cell? ⟨S, 1, none⟩ = some (.int .i64 (off : Int))) (first | exact ⟨g0, g1⟩ | exact ⟨hk.cell2 id g0, hk.cell2 id g1⟩) (first
    | (go_at_call 33; ((with_reducible refine (le16_any D off (bs.length - off) (C - off) b0 b1 W.drew l1 c0 c1 d0 d1).mono ?_); rintro ed w2 ⟨rfl, hk⟩)))
  have H3 := (H1.mild (Kept.refl _ W).drew).mild hk
  have K3 := K1.drew.trans hk
  have e0 := H3.blk.cell 0
  have e1 := H3.blk.cell 1
  have ef := fun o => H3.blk.free o
  go_wp2
  go_ret2
  exact ⟨rfl, H3.adv 2 hle hSD, Mild.one K3 S 1 _⟩

set_option maxRecDepth 100000 in
set_option maxHeartbeats 1000000 in
theorem bbU32_any (S D C : Nat) (bs : List Nat) (off : Nat) (b0 b1 b2 b3 : Nat) (w : World) (h : StrB w S D C bs off) (hle : off + 4 ≤ bs.length) (hb : bs.length ≤ 1000000000)
    (e0 : bs[off]? = some b0) (e1 : bs[off + 1]? = some b1) (e2 : bs[off + 2]? = some b2) (e3 : bs[off + 3]? = some b3) (d0 : b0 < 256) (d1 : b1 < 256) (d2 : b2 < 256) (d3 : b3 < 256) (hSD : S ≠ D) :
    Calls Tryz.prog 64 #[.pointer (some ⟨S, 0, none⟩)] w fun e w' => e = .returned (.tuple #[.int .u32 (leN [b0, b1, b2, b3] : Nat), .nilIface]) ∧ StrB w' S D C bs (off + 4) ∧ Kept (fun k => k = S) w w' := by
  have f0 := h.blk.cell 0
  have f1 := h.blk.cell 1
  have hC := h.cap
  have H := Lib.hid h
  have E0 := Lib.hid e0
  have E1 := Lib.hid e1
  have E2 := Lib.hid e2
  have E3 := Lib.hid e3
  have l1 : 4 ≤ bs.length - off := by omega
  have s1 := fun (W : World) => run_cut_from (P := Tryz.prog) W undU8s szU8 D 0 bs.length C off .i64 (off : Int) rfl (by omega) (by omega)
  have r1 : IntKind.i64.wrap ((bs.length : Int) - off) = (bs.length : Int) - off := IntWalk.i64_in _ (by omega)
  clear h e0 e1 e2 e3
  go_enter Tryz.func64, Tryz.ntmps64
  go_wp2
  go_quiet (fail)
  have H1 := H.out.mild ((Kept.refl _ w).drewN nq)
  have K1 : Mild w (w.drewN nq) := (Kept.refl _ w).drewN nq
  generalize w.drewN nq = W at *
  have g0 := H1.blk.cell 0
  have g1 := H1.blk.cell 1
  have c0 : W.drew.cell? ⟨D, off, none⟩ = some (.int .u8 (b0 : Int)) := H1.at E0.out
  have c1 : W.drew.cell? ⟨D, off + 1, none⟩ = some (.int .u8 (b1 : Int)) := H1.at E1.out
  have c2 : W.drew.cell? ⟨D, off + 2, none⟩ = some (.int .u8 (b2 : Int)) := H1.at E2.out
  have c3 : W.drew.cell? ⟨D, off + 3, none⟩ = some (.int .u8 (b3 : Int)) := H1.at E3.out
  simp only [Nat.zero_add] at s1
  clear f0 f1
  go_wp2_with fail
  go_region_held3 (fun w' => w'.cell? ⟨S, 0, none⟩ = some (.slice (some ⟨D, 0, none⟩) bs.length C) ∧ w'.cell? ⟨S, 1, none⟩ = some (.int .i64 (off : Int))) (first | exact ⟨g0, g1⟩ | exact ⟨hk.cell2 id g0, hk.cell2 id g1⟩) (first
    | (go_at_call 28; ((with_reducible refine (le32_any D off (bs.length - off) (C - off) b0 b1 b2 b3 W.drew l1 c0 c1 c2 c3 d0 d1 d2 d3).mono ?_); rintro ed w2 ⟨rfl, hk⟩)))
  have H3 := (H1.mild (Kept.refl _ W).drew).mild hk
  have K3 := K1.drew.trans hk
  have e0 := H3.blk.cell 0
  have e1 := H3.blk.cell 1
  have ef := fun o => H3.blk.free o
  go_wp2
  go_ret2
  exact ⟨rfl, H3.adv 4 hle hSD, Mild.one K3 S 1 _⟩
end Go.Proofs
