/-
  impl.Walk: the first numbers of a set from a number on.
-/
import Derived.Test.YtplpoejknbhinaaGreatDoorKAif
import Derived.Test.YtplpoejknbhinaaGreatDoorJMd
import Derived.Test.YtplpoejknbhinaaGreatDoorJAp2
import Derived.Test.YtplpoejknbhinaaGreatDoorKNms
namespace Go.Proofs
open Go.RowKit Go.Roar
/-- The length of a slice. -/
def slLen : Value → Nat | .slice _ n _ => n | _ => 0
theorem infoU32w : (Tryz.prog.info? 23).map (fun i => (i.zero, i.size, i.bytes)) = some (some (.int .u32 0), 1, 4) := by kernel_rfl
theorem undU32w : Tryz.prog.underlying 30 = some (.slice 23) := by kernel_rfl
theorem ahead_av (a : Addr) (w : World) : (nilAhead 286 55 (.pointer (some a)) "AdvanceIfNeeded").run Tryz.prog w = .ok (some false) w := by kernel_rfl
theorem method_av (a : Addr) (w : World) : (method 286 55 (.pointer (some a)) "AdvanceIfNeeded").run Tryz.prog w = .ok (77, .pointer (some a)) w := by kernel_rfl
theorem bit1w : ∀ m : Nat, m < 2 → bits .and .i64 (m : Int) 1 = (m : Int) := by
  intro m hm
  rcases (show m = 0 ∨ m = 1 by omega) with rfl | rfl <;> decide

set_option maxRecDepth 100000 in
set_option maxHeartbeats 4000000 in
theorem implWalk_any (u : Value) (rs s : List (Nat × Nat)) (x n m : Nat) (w : World) (h : Spans w u rs s) (hx : x < 4294967296) (hn : n ≤ 2000) (hm : m < 2) :
    Calls Tryz.prog 6 #[u, .int .u32 (x : Int), .int .i64 (n : Int), .int .i64 (m : Int)] w fun e w' => ∃ v, e = .returned v ∧ Own w' 1 23 v ((frm x (rgNums s)).take n).length (u32s ((frm x (rgNums s)).take n)) ∧ Mild w w' := by
  obtain ⟨iU, zz1, zz2, zz3, zz4⟩ := info_parts infoU32w
  have FT := Lib.hid (fits_of h rfl)
  have H := Lib.hid h
  obtain ⟨A, c, hu, _⟩ := h.sg
  have Hu := Lib.hid hu
  clear h
  subst hu
  have k0 := bit1w m hm
  have i1 : ¬ (n : Int) < 0 := by omega
  have i2 : ¬ (2000 : Int) < (n : Int) := by omega
  have n1 := fun (z : Nat) => ahead_hn ⟨z, 0, none⟩
  have n2 := fun (z : Nat) => method_hn ⟨z, 0, none⟩
  have n3 := fun (z : Nat) => ahead_nx ⟨z, 0, none⟩
  have n4 := fun (z : Nat) => method_nx ⟨z, 0, none⟩
  have n5 := fun (z : Nat) => ahead_av ⟨z, 0, none⟩
  have n6 := fun (z : Nat) => method_av ⟨z, 0, none⟩
  obtain ⟨L, hLL⟩ : ∃ L, L = frm x (rgNums s) := ⟨_, rfl⟩
  rw [← hLL]
  have HLL := Lib.hid hLL
  clear hLL
  go_enter Tryz.func6, Tryz.ntmps6
  go_wp2_with (first
    | (go_at_call 11; (with_reducible refine FT.out.mono ?_); rintro ed w1 ⟨rfl, hm⟩; have M1 := Lib.hid hm; clear hm)
    | (go_at_call 12; (with_reducible refine (made_of (H.out.mild M1.out) _).mono ?_); rintro ed w2 ⟨p, vk, vc, vw, q, rfl, s1, s2, s3, s4, s5⟩; have S1 := Lib.hid s1; have S2 := Lib.hid s2; have S4 := Lib.hid s4; have R2 : Hid (Rising (nums (psOf q))) := Lib.hid (allN_sorted s2); have Ky2 := Lib.hid s2.keys; clear s1 s2 s3 s4 s5; have WH := Lib.hid (whole_of (H := w2.heap.size) S1.out.sep S2.out (H.out.mild (M1.out.trans S1.out.mild)).tab (H.out.mild (M1.out.trans S1.out.mild)).tabs S1.out.sep.lt))
    | (go_at_call 13; (with_reducible refine (bmIter_any p (psOf q) w2 WH.out).mono ?_); rintro ed w3 ⟨rfl, k3, cs3, it3⟩; have K3 := Lib.hid k3; have It3 := Lib.hid it3; clear k3 it3; have WH3 := Lib.hid (WH.out.kept K3.out (fun _ _ => id)))
    | (go_at_call 77; (with_reducible refine (iiAdv_any w2.heap.size w2.heap.size p x (psOf q) w3 cs3 _ It3.out WH3.out (Nat.le_refl _) hx R2.out Ky2.out).mono ?_); rintro ed w4 ⟨rfl, k4, cs4, it4⟩; have K4 := Lib.hid k4; have It4 := Lib.hid it4; clear k4 it4; have WH4 := Lib.hid (WH3.out.kept K4.out (fun b hb h => by omega)))
    | fail)
  have hL : nums (psOf q) = rgNums s := (nums_allN _).trans S4.out
  have It5 : Hid (It w4 w2.heap.size w2.heap.size p (psOf q) cs4 L) := Lib.hid (by rw [HLL.out, ← hL]; exact It4.out)
  have sz1 := M1.out.size
  have sz2 := S1.out.mild.size
  have sz3 := K3.out.size
  have sz4 := K4.out.size
  have hI4 := It4.out.blk.lt
  have KW := Lib.hid (show Mild w w4 from Kept.then ((M1.out.trans S1.out.mild).trans K3.out) K4.out (fun b hb h => by omega))
  have hIw : w.heap.size ≤ w2.heap.size := by omega
  clear hL It4 It3 K3 K4 WH WH3 R2 Ky2 S1 S2 S4 FT sz1 sz2 sz3 sz4 n1 n2 n3 n4 n5 n6
  have n1 := ahead_hn ⟨w2.heap.size, 0, none⟩
  have n2 := method_hn ⟨w2.heap.size, 0, none⟩
  have n3 := ahead_nx ⟨w2.heap.size, 0, none⟩
  have n4 := method_nx ⟨w2.heap.size, 0, none⟩
  generalize w2.heap.size = I at *
  generalize psOf q = ps at *
  go_loopw [9] (fun v wr => ∃ (k : Nat) (cs : List Value), Hid (Own wr 1 23 v k (u32s (L.take k))) ∧ k ≤ n ∧ k ≤ L.length ∧ Hid (It wr I I p ps cs (L.drop k)) ∧ Hid (Kept (fun b => b = I) w4 wr) ∧ Hid (∀ b ∈ blkOf v, w4.heap.size ≤ b)) (fun v _ => n - slLen v)
  case atStart => exact ⟨0, cs4, Lib.hid (Own.nil _ _ _), Nat.zero_le _, Nat.zero_le _, It5, Lib.hid (Kept.refl _ _), Lib.hid (by simp)⟩
  case round =>
    obtain ⟨k, cs, Ho, hk1, hk2, Hit, HK, Hf⟩ := hrel
    obtain ⟨A2, c2, rfl⟩ := Own.form Ho.out
    have W4 := Lib.hid (WH4.out.kept HK.out (fun b hb h => by omega))
    have C1 := Lib.hid (iiHas_any I I p ps wr cs (L.drop k) Hit.out W4.out)
    have KEND := Lib.hid (show ∀ W : World, Mild wr W → Mild w W from fun W kk => Kept.then KW.out (HK.out.trans (kk.mono (fun _ _ => False.elim))) (fun b hb h => by omega))
    by_cases hkn : k < n
    · have j1 : (k : Int) < (n : Int) := by omega
      by_cases hkl : k < L.length
      · have hdr := List.drop_eq_getElem_cons hkl
        have hxk : L[k]? = some L[k] := List.getElem?_eq_getElem hkl
        generalize L[k] = x9 at *
        have e : decide (L.drop k ≠ []) = true := by rw [hdr]; simp
        rw [e] at C1
        have C2 := Lib.hid (fun (W : World) (kk : Mild wr W) => iiNext_any I I p ps x9 W cs (L.drop (k + 1)) (by rw [← hdr]; exact Hit.out.kept kk (fun _ _ => id) id) (W4.out.kept kk (fun _ _ => id)) (Nat.le_refl _))
        have HT := Lib.hid (show u32s (L.take (k + 1)) = u32s (L.take k) ++ [.int .u32 (x9 : Int)] by rw [List.take_add_one, hxk, u32s_append]; rfl)
        have hIb : ∀ b ∈ blkOf (.slice A2 k c2), ¬ b = I := fun b hb h => by have := Hf.out b hb; omega
        have HIB := Lib.hid hIb
        clear e hdr hxk hIb
        go_wp2_with (first
          | (go_at_call 78; (with_reducible refine C1.out.mono ?_); rintro ed w5 ⟨rfl, k5⟩; have K5 := Lib.hid k5; clear k5)
          | (go_at_call 79; (with_reducible refine (C2.out _ K5.out).mono ?_); rintro ed w6 ⟨rfl, k6, cs6, it6⟩; have K6 := Lib.hid k6; have It6 := Lib.hid it6; clear k6 it6; have O6 := Lib.hid ((Ho.out.kept K5.out (fun _ _ => id)).kept K6.out HIB.out); have KK6 := Lib.hid ((HK.out.trans (K5.out.mono (fun _ _ => False.elim))).trans K6.out))
          | (at_builtin; refine append_own_kept (S := fun b => b = I) w4 rfl _ _ 30 30 rfl 23 iU (.int .u32 0) 1 4 undU32w undU32w zz1 zz2 zz3 zz4 rfl (by decide) _ k (u32s (L.take k)) rfl (O6.out.alloc _) (KK6.out.alloc _) Hf.out (some ⟨_, 0, none⟩) 1 1 [.int .u32 (x9 : Int)] rfl rfl (by simp) (fun ad had => by cases had; exact cell_one_new _ _ _) (by simp [Value.oneCell']) (by unfold maxLen; omega) (by omega) ?_; intro v7 w7 o7 k7 l7 f7 n7)
          | fail)
        rw [← HT.out] at o7
        have it7 : It w7 I I p ps cs6 (L.drop (k + 1)) := (It6.out.kept (S := fun _ => False) ((Kept.refl _ _).alloc _) (fun _ _ => id) id).kept l7 (fun b hb h => by have := Hf.out b h; omega) (fun h => by have := Hf.out I h; omega)
        obtain ⟨A7, c7, rfl⟩ := Own.form o7
        go_roundw
        case rel => exact ⟨k + 1, cs6, Lib.hid o7, by omega, by omega, Lib.hid it7, Lib.hid k7, Lib.hid f7⟩
        case measure => simp only [slLen]; omega
      · have e : decide (L.drop k ≠ []) = false := by rw [List.drop_eq_nil_of_le (by omega)]; simp
        rw [e] at C1
        clear e
        go_wp2_with (first
          | (go_at_call 78; (with_reducible refine C1.out.mono ?_); rintro ed w5 ⟨rfl, k5⟩; have K5 := Lib.hid k5; clear k5)
          | fail)
        go_ret
        have e2 : L.take n = L.take k := by rw [List.take_of_length_le (by omega), List.take_of_length_le (by omega)]
        have e3 : (L.take k).length = k := by rw [List.length_take]; omega
        exact ⟨_, rfl, by rw [e2, e3]; exact Ho.out.kept K5.out (fun _ _ => id), KEND.out _ K5.out⟩
    · have hkn2 : n = k := by omega
      have j1 : ¬ (k : Int) < (n : Int) := by omega
      have HKN := Lib.hid hkn2
      clear hkn2
      go_wp2_with fail
      go_ret
      exact ⟨_, rfl, by rw [HKN.out, Nat.min_eq_left hk2]; exact Ho.out, KEND.out _ (Kept.refl _ _)⟩
end Go.Proofs
