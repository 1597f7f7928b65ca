/-
  Plain laws for FnMany: a stretch of a row is written, number behind number.
  shortIterator.nextMany: numbers of an array go to a buffer.
-/
import Derived.Test.YteagcndpegdojaaGreatDoorJNms
import Derived.Test.YteagcndpegdojaaGreatDoorJHeap
import Derived.Lib.EndianBits
namespace Go.Roar
open Go.RowKit Go.Proofs
/-- X, its places from off on holding ys. -/
def sp (X : List Nat) (off : Nat) (ys : List Nat) : List Nat := X.take off ++ (ys ++ X.drop (off + ys.length))
theorem sp_nil (X : List Nat) (off : Nat) : sp X off [] = X := by simp [sp]
theorem sp_length {X ys : List Nat} {off : Nat} (h : off + ys.length ≤ X.length) : (sp X off ys).length = X.length := by
  unfold sp
  rw [List.length_append, List.length_append, List.length_take, List.length_drop]
  omega
theorem sp_set {X ys : List Nat} {off n : Nat} (hn : n = ys.length) (h : off + n < X.length) (v : Nat) : (sp X off ys).set (off + n) v = sp X off (ys ++ [v]) := by
  subst hn
  unfold sp
  have h1 : (X.take off).length = off := by rw [List.length_take]; omega
  rw [List.set_append_right _ _ (by omega), h1, show off + ys.length - off = ys.length by omega, List.set_append_right _ _ (Nat.le_refl _), Nat.sub_self, List.drop_eq_getElem_cons h, List.set_cons_zero, List.length_append, List.append_assoc]
  rfl
theorem sp_sp {X ys zs : List Nat} {off n : Nat} (hn : n = ys.length) (h : off + n ≤ X.length) : sp (sp X off ys) (off + n) zs = sp X off (ys ++ zs) := by
  subst hn
  unfold sp
  have h1 : (X.take off).length = off := by rw [List.length_take]; omega
  have e1 : (X.take off ++ (ys ++ X.drop (off + ys.length))).take (off + ys.length) = X.take off ++ ys := by
    rw [← List.append_assoc, List.take_append_of_le_length (by rw [List.length_append]; omega), List.take_of_length_le (by rw [List.length_append]; omega)]
  have e2 : (X.take off ++ (ys ++ X.drop (off + ys.length))).drop (off + ys.length + zs.length) = X.drop (off + (ys ++ zs).length) := by
    rw [← List.append_assoc, List.drop_append, List.drop_of_length_le (by rw [List.length_append]; omega), List.nil_append, List.length_append, h1, List.drop_drop, List.length_append]
    congr 1
    omega
  rw [e1, e2, List.append_assoc, List.append_assoc]
theorem sp_take {X ys : List Nat} {n : Nat} (hn : n = ys.length) : (sp X 0 ys).take n = ys := by
  subst hn
  unfold sp
  rw [List.take_zero, List.nil_append, List.take_left]
theorem u32s_set (l : List Nat) (i v : Nat) : (u32s l).set i (.int .u32 (v : Int)) = u32s (l.set i v) := by simp [u32s, List.map_set]
theorem take_more {l : List Nat} {j n x : Nat} (h : l[j + n]? = some x) (f : Nat → Nat) : ((l.drop j).take (n + 1)).map f = ((l.drop j).take n).map f ++ [f x] := by
  rw [List.take_add_one, List.getElem?_drop, h, List.map_append]
  rfl
end Go.Roar

namespace Go.Roar
open Go.RowKit Go.Proofs
theorem or_hs {x hs : Nat} (hx : x < 65536) (h1 : hs % 65536 = 0) (h2 : hs < 4294967296) : bits .or .u32 (x : Int) (hs : Int) = ((hs + x : Nat) : Int) := by
  have ow := u32_or16 (x : Int) (hs : Int) (by omega) (by omega) (by omega) (by omega) (by omega)
  rw [ow]; omega
/-- What nextMany of an array leads to. -/
def SiP (I o gb off m hs N j : Nat) (xs X : List Nat) (T t : TypeId) (cs : List Value) (w : World) (e : Ending) (w' : World) : Prop :=
  ∃ k, k = min m (N - j) ∧ e = .returned (.int .i64 (k : Int)) ∧ Blk w' gb t (u32s (sp X off (((xs.drop j).take k).map (hs + ·)))) ∧ Blk w' I T (cs.set (o + 1) (.int .i64 ((j + k : Nat) : Int))) ∧ Kept (fun b => b = I ∨ b = gb) w w'
end Go.Roar
namespace Go.Proofs
open Go.RowKit Go.Roar

set_option maxRecDepth 100000 in
set_option maxHeartbeats 1000000 in
theorem siMany_any (I o gb off m cap hs g N c j : Nat) (xs X : List Nat) (T t : TypeId) (cs : List Value) (w : World) (hI : Blk w I T cs) (h0 : cs[o]? = some (.slice (some ⟨g, 0, none⟩) N c)) (h1 : cs[o + 1]? = some (.int .i64 (j : Int)))
    (hN : xs.length = N) (hN2 : N ≤ 65536) (hj : j ≤ N) (hx : ∀ (i x : Nat), xs[i]? = some x → w.cell? ⟨g, i, none⟩ = some (.int .u16 (x : Int))) (hxb : ∀ x ∈ xs.drop j, x < 65536)
    (hb : Blk w gb t (u32s X)) (hoff : off + m ≤ X.length) (hm : m ≤ 100000) (h8 : hs % 65536 = 0) (h9 : hs < 4294967296) (d1 : gb ≠ I) (d3 : g ≠ gb) :
    Calls Tryz.prog 301 #[.pointer (some ⟨I, o, none⟩), .int .u32 (hs : Int), .slice (some ⟨gb, off, none⟩) m cap] w (SiP I o gb off m hs N j xs X T t cs w) := by
  have c0 := (hI.cell o).trans h0
  have c1 := (hI.cell (o + 1)).trans h1
  have cf := hI.free (o + 1)
  have HB := Lib.hid (show Blk w gb t (u32s (sp X off (((xs.drop j).take 0).map (hs + ·)))) from by rw [List.take_zero]; simp only [List.map_nil]; rw [sp_nil]; exact hb)
  have HI := Lib.hid hI
  have HX := Lib.hid hx
  have HXB := Lib.hid hxb
  have Hn := Lib.hid hN
  clear hb hx hxb hN hI h0 h1
  go_enter Tryz.func301, Tryz.ntmps301
  go_wp2
  go_loopw [7, 8] (fun n l wr => ∃ q : Nat, n = .int .i64 q ∧ l = .int .i64 ((j + q : Nat) : Int) ∧ q ≤ m ∧ j + q ≤ N ∧ Hid (Blk wr gb t (u32s (sp X off (((xs.drop j).take q).map (hs + ·))))) ∧ Hid (Kept (fun b => b = gb) w wr)) (fun n _ _ => m - (intOf n).toNat)
  case atStart => exact ⟨0, rfl, rfl, Nat.zero_le _, by omega, HB, Lib.hid (Kept.refl _ _)⟩
  case round =>
    obtain ⟨q, rfl, rfl, hq1, hq2, Hb, Hk⟩ := hrel
    have i8 := Hk.out.cell2 (p := ⟨I, o, none⟩) (fun e => d1 e.symm) c0
    by_cases hqm : q < m
    · by_cases hql : j + q < N
      · obtain ⟨x, hxx⟩ : ∃ x, xs[j + q]? = some x := ⟨_, List.getElem?_eq_getElem (by rw [Hn.out]; exact hql)⟩
        have ca := Hk.out.cell2 (p := ⟨g, j + q, none⟩) d3 (HX.out _ _ hxx)
        have hx5 := HXB.out x (List.mem_of_getElem? (i := q) (by rw [List.getElem?_drop]; exact hxx))
        obtain ⟨v, hv⟩ : ∃ v, v = hs + x := ⟨_, rfl⟩
        have e1 : bits .or .u32 (x : Int) (hs : Int) = (v : Int) := by rw [hv]; exact or_hs hx5 h8 h9
        have hlen : (((xs.drop j).take q).map (hs + ·)).length = q := by rw [List.length_map, List.length_take, List.length_drop, Hn.out]; omega
        have hsp := sp_length (X := X) (off := off) (ys := ((xs.drop j).take q).map (hs + ·)) (by omega)
        obtain ⟨y9, hy9⟩ : ∃ y, (u32s (sp X off (((xs.drop j).take q).map (hs + ·))))[off + q]? = some y := ⟨_, List.getElem?_eq_getElem (by rw [u32s_length]; omega)⟩
        have cb := (Hb.out.cell (off + q)).trans hy9
        have cf := Hb.out.free (off + q)
        have HS := Lib.hid (show (u32s (sp X off (((xs.drop j).take q).map (hs + ·)))).set (off + q) (.int .u32 (v : Int)) = u32s (sp X off (((xs.drop j).take (q + 1)).map (hs + ·))) from by
          rw [u32s_set, sp_set hlen.symm (by omega), take_more hxx, hv])
        clear hxx hv hlen hsp hy9
        go_wp2
        have Hb2 := Hb.out.set (off + q) (.int .u32 (v : Int))
        rw [HS.out] at Hb2
        go_roundw
        case rel => exact ⟨q + 1, by go_num, by go_num, by omega, by omega, Lib.hid Hb2, Lib.hid (Kept.setCell (S := fun b => b = gb) (p := ⟨gb, off + q, none⟩) Hk.out (fun _ => rfl) _)⟩
        case measure => simp only [intOf]; omega
      · have hq : min m (N - j) = q := by omega
        have i2 : ¬ ((j : Int) + (q : Int) < (N : Int)) := by omega
        have i3 : decide (((j + q : Nat) : Int) < (N : Int)) = false := by simp; omega
        have i4 : ¬ (((j + q : Nat) : Int) < (N : Int)) := by omega
        have HQ := Lib.hid hq
        have g1 := (HI.out.kept Hk.out (fun e => d1 e.symm)).free (o + 1)
        have g2 := Hk.out.cell2 (p := ⟨I, o + 1, none⟩) (fun e => d1 e.symm) c1
        clear hq
        go_wp2
        go_ret
        refine ⟨q, HQ.out.symm, rfl, Hb.out.set_ne d1 _ _, ?_, Kept.setCell (S := fun b => b = I ∨ b = gb) (p := ⟨I, o + 1, none⟩) (Hk.out.mono (fun _ _ h => .inr h)) (fun _ => .inl rfl) _⟩
        exact (HI.out.kept Hk.out (fun e => d1 e.symm)).set (o + 1) _
    · have hq : min m (N - j) = q := by omega
      have i1 : ¬ (q : Int) < (m : Int) := by omega
      have HQ := Lib.hid hq
      have g1 := (HI.out.kept Hk.out (fun e => d1 e.symm)).free (o + 1)
      have g2 := Hk.out.cell2 (p := ⟨I, o + 1, none⟩) (fun e => d1 e.symm) c1
      clear hq
      go_wp2
      go_ret
      refine ⟨q, HQ.out.symm, rfl, Hb.out.set_ne d1 _ _, ?_, Kept.setCell (S := fun b => b = I ∨ b = gb) (p := ⟨I, o + 1, none⟩) (Hk.out.mono (fun _ _ h => .inr h)) (fun _ => .inl rfl) _⟩
      exact (HI.out.kept Hk.out (fun e => d1 e.symm)).set (o + 1) _
end Go.Proofs
