/-
  roaring.New, bytes.NewReader, NewByteInputFromReader, NewByteBuffer, slices.Clone; Bitmap.ReadFrom, Bitmap.FromBuffer.
-/
import Derived.Test.YtbfjpbpohkidoaaGreatDoorAdb
import Derived.Test.YtbfjpbpohkidoaaGreatDoorBuf
import Derived.Maps.AppendAt
import Derived.Stop.Asserts
import Derived.Lib.SliceRun
namespace Go.Proofs
open Go.RowKit Go.Roar

theorem new_any (w : World) :
    Calls Tryz.prog 15 #[] w fun e w' => e = .returned (.pointer (some ⟨w.heap.size, 0, none⟩)) ∧ Blk w' w.heap.size 68 [.slice none 0 0, .slice none 0 0, .slice none 0 0, .bool false] ∧ Mild w w' := by
  go_enter Tryz.func15, Tryz.ntmps15
  go_wp2
  go_ret
  exact ⟨rfl, Blk.new w _ _, (Kept.refl _ _).alloc _⟩

theorem newReader_any (D C : Nat) (bs : List Nat) (w : World) (h : ∃ r, Blk w D 5 (u8s bs ++ r)) (hC : bs.length ≤ C) :
    Calls Tryz.prog 17 #[.slice (some ⟨D, 0, none⟩) bs.length C] w fun e w' => e = .returned (.pointer (some ⟨w.heap.size, 0, none⟩)) ∧ RdA w' w.heap.size D C bs 0 ∧ Mild w w' := by
  obtain ⟨r, h⟩ := h
  have H := Lib.hid h
  clear h
  go_enter Tryz.func17, Tryz.ntmps17
  go_wp2
  go_ret
  exact ⟨rfl, ⟨⟨-1, Blk.new w _ _⟩, ⟨r, H.out.alloc _⟩, Nat.zero_le _, hC⟩, (Kept.refl _ _).alloc _⟩

theorem newInput_any (R D C : Nat) (bs : List Nat) (w : World) (h : RdA w R D C bs 0) :
    Calls Tryz.prog 23 #[.iface 55 (.pointer (some ⟨R, 0, none⟩))] w fun e w' => e = .returned (.iface 88 (.pointer (some ⟨w.heap.size, 0, none⟩))) ∧ StrA w' w.heap.size R D C bs 0 ∧ Mild w w' := by
  have H := Lib.hid h
  clear h
  go_enter Tryz.func23, Tryz.ntmps23
  go_wp2
  go_ret
  exact ⟨rfl, ⟨⟨_, _, _, _, Blk.new w _ _⟩, H.out.kept (S := fun _ => False) ((Kept.refl _ _).alloc _) id id⟩, (Kept.refl _ _).alloc _⟩

theorem newBuffer_any (D C : Nat) (bs : List Nat) (w : World) (h : ∃ r, Blk w D 5 (u8s bs ++ r)) (hC : bs.length ≤ C) :
    Calls Tryz.prog 26 #[.slice (some ⟨D, 0, none⟩) bs.length C] w fun e w' => e = .returned (.pointer (some ⟨w.heap.size, 0, none⟩)) ∧ StrB w' w.heap.size D C bs 0 ∧ Mild w w' := by
  obtain ⟨r, h⟩ := h
  have H := Lib.hid h
  clear h
  go_enter Tryz.func26, Tryz.ntmps26
  go_wp2
  go_ret
  exact ⟨rfl, ⟨Blk.new w _ _, ⟨r, H.out.alloc _⟩, Nat.zero_le _, hC⟩, (Kept.refl _ _).alloc _⟩

set_option maxRecDepth 100000 in
set_option maxHeartbeats 1000000 in
theorem clone_any (g o c : Nat) (bs : List Nat) (w : World) (h : RB w (some ⟨g, o, none⟩) bs.length c bs) (h0 : 0 < bs.length) (hb : bs.length ≤ 1000000000) :
    Calls Tryz.prog 18 #[.slice (some ⟨g, o, none⟩) bs.length c] w fun e w' => ∃ D C, e = .returned (.slice (some ⟨D, 0, none⟩) bs.length C) ∧ (∃ r, Blk w' D 5 (u8s bs ++ r)) ∧ bs.length ≤ C ∧ Mild w w' ∧ w.heap.size ≤ D := by
  obtain ⟨iU, u1, u2, u3, u4⟩ := info_parts infoU8
  have E1 := fun (W : World) => Lib.run_eql_slice_nil (P := Tryz.prog) W 34 5 (some ⟨g, o, none⟩) bs.length c 0 0 undU8s
  have hcell := Lib.hid (show ∀ (j x : Nat), bs[j]? = some x → w.cell? ⟨g, o + j, none⟩ = some (.int .u8 (x : Int)) from by
    obtain ⟨g', o', e, hc⟩ := h.2.2.2 h0
    cases e
    exact hc)
  clear h
  have m0 : Mild w (w.alloc (.cells #[] 5)) := (Kept.refl _ _).alloc _
  have ow0 := (show Own (w.alloc (.cells #[] 5)) 1 5 (.slice (some ⟨w.heap.size, 0, none⟩) 0 0) 0 [] from ⟨rfl, .inr ⟨w.heap.size, 0, [], rfl, rfl, by unfold maxLen; omega, Blk.new w _ []⟩⟩).toRow
  have hN : ∀ (j : Nat) (u : Value), (u8s bs)[j]? = some u → (w.alloc (.cells #[] 5)).cell? ((⟨g, o, none⟩ : Addr).add j) = some u := by
    intro j u hj
    unfold u8s at hj
    rw [List.getElem?_map, Option.map_eq_some_iff] at hj
    obtain ⟨x, hx, rfl⟩ := hj
    have e : (⟨g, o, none⟩ : Addr).add j = ⟨g, o + j, none⟩ := by
      unfold Addr.add
      by_cases hj0 : j = 0
      · subst hj0; simp
      · simp [hj0]
    rw [e]
    exact m0.cell2 id (hcell.out j x hx)
  have hO : ∀ u ∈ u8s bs, u.oneCell' = true := by
    intro u hu
    unfold u8s at hu
    rw [List.mem_map] at hu
    obtain ⟨x, _, rfl⟩ := hu
    rfl
  have HN := Lib.hid hN
  have HO := Lib.hid hO
  have HW := Lib.hid ow0
  clear hN hO ow0
  go_enter Tryz.func18, Tryz.ntmps18
  go_wp2_with (first
    | (at_builtin; refine wpList_append_own_at _ rfl _ _ 34 rfl 0 5 iU (.int .u8 0) 1 1 undU8s u1 u2 u3 u4 rfl (by decide) _ 0 [] rfl HW.out ⟨g, o, none⟩ bs.length c (u8s bs) rfl (by simp) HN.out HO.out (by unfold maxLen; omega) (by omega) (Nat.zero_le _) ?_; intro v' w4 hown' hgrow hnil hat)
    )
  go_ret
  obtain ⟨D, k, r, rfl, hr, hm, hbk⟩ := (Own.ofRow hown').open (by omega)
  rw [List.nil_append] at hbk
  rw [Nat.zero_add] at *
  refine ⟨D, _, rfl, ⟨r, hbk⟩, Nat.le_add_right _ _, ?_, ?_⟩
  · exact Kept.then m0 (Kept.grown (S := fun b => b = w.heap.size) ((Kept.refl _ _)) hgrow (fun k hk _ => by simp [Value.ownBlock, Act.eval] at hk; omega)) (fun k hk h => by omega)
  · rcases hat with h | h
    · simp [Value.ownBlock, Act.eval] at h; omega
    · simp [Value.ownBlock] at h; omega

theorem notInput (v : Value) (xT : TypeId) (w : World) : (Instr.typeAssert (.iface 55 v) xT 72 true).run Tryz.prog w = .ok (.tuple #[.nilIface, .bool false]) w := run_typeAssert_lacksB Tryz.underlying72 (by kernel_rfl) (by kernel_rfl) v xT w

set_option maxRecDepth 100000 in
set_option maxHeartbeats 1000000 in
theorem bmReadFrom_any (p R D C : Nat) (bs : List Nat) (n : Nat) (Q : World → Prop) (w : World) (h : RdA w R D C bs 0)
    (H : ∀ w1, StrA w1 w.heap.size R D C bs 0 → Mild w w1 → Calls Tryz.prog 24 #[.pointer (some ⟨p, 0, none⟩), .iface 88 (.pointer (some ⟨w.heap.size, 0, none⟩)), .slice none 0 0] w1 fun e w' => e = .returned (.tuple #[.int .i64 (n : Int), .nilIface]) ∧ Q w') :
    Calls Tryz.prog 16 #[.pointer (some ⟨p, 0, none⟩), .iface 55 (.pointer (some ⟨R, 0, none⟩)), .slice none 0 0] w fun e w' => e = .returned (.tuple #[.int .i64 (n : Int), .nilIface]) ∧ Q w' := by
  have C1 := Lib.hid (newInput_any R D C bs w h)
  have H1 := Lib.hid H
  have N := notInput
  clear h H
  go_enter Tryz.func16, Tryz.ntmps16
  go_wp2_with (first
    | (go_at_call 23; refine C1.out.mono ?_; rintro ed w1 ⟨rfl, s1, k1⟩)
    | (go_at_call 24; refine (H1.out w1 s1 k1).mono ?_; rintro ed w2 ⟨rfl, q2⟩))
  go_ret2
  exact ⟨rfl, q2⟩

set_option maxRecDepth 100000 in
set_option maxHeartbeats 1000000 in
theorem bmFromBuffer_any (p D C : Nat) (bs : List Nat) (n : Nat) (Q : World → Prop) (w : World) (h : ∃ r, Blk w D 5 (u8s bs ++ r)) (hC : bs.length ≤ C)
    (H : ∀ w1, StrB w1 w.heap.size D C bs 0 → Mild w w1 → Calls Tryz.prog 24 #[.pointer (some ⟨p, 0, none⟩), .iface 86 (.pointer (some ⟨w.heap.size, 0, none⟩)), .slice none 0 0] w1 fun e w' => e = .returned (.tuple #[.int .i64 (n : Int), .nilIface]) ∧ Q w') :
    Calls Tryz.prog 21 #[.pointer (some ⟨p, 0, none⟩), .slice (some ⟨D, 0, none⟩) bs.length C] w fun e w' => e = .returned (.tuple #[.int .i64 (n : Int), .nilIface]) ∧ Q w' := by
  have C1 := Lib.hid (newBuffer_any D C bs w h hC)
  have H1 := Lib.hid H
  clear h H
  go_enter Tryz.func21, Tryz.ntmps21
  go_wp2_with (first
    | (go_at_call 26; refine C1.out.mono ?_; rintro ed w1 ⟨rfl, s1, k1⟩)
    | (go_at_call 24; refine (H1.out w1 s1 k1).mono ?_; rintro ed w2 ⟨rfl, q2⟩))
  go_ret2
  exact ⟨rfl, q2⟩
end Go.Proofs
