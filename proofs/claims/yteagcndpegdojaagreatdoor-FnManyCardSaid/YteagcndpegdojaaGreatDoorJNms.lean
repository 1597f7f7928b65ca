/-
  laws.numbers: two lists of numbers are the same.
  laws.numbers where what is wanted lies anywhere in a block; a slice cut in two.
-/
import Derived.Test.YteagcndpegdojaaGreatDoorJWh
import Derived.Test.YteagcndpegdojaaGreatDoorJHeap
namespace Go.Roar
open Go.RowKit Go.Proofs
/-- A slice that reads cells of one element each. -/
def NV (w : World) (v : Value) (xs : List Value) : Prop := ∃ A c, v = .slice A xs.length c ∧ ∀ (i : Nat) (x : Value), xs[i]? = some x → ∃ g, A = some ⟨g, 0, none⟩ ∧ w.cell? ⟨g, i, none⟩ = some x
theorem NV.mild {w w' : World} {v : Value} {xs : List Value} (h : NV w v xs) (k : Mild w w') : NV w' v xs := by
  obtain ⟨A, c, rfl, h⟩ := h
  refine ⟨A, c, rfl, fun i x hx => ?_⟩
  obtain ⟨g, rfl, h1⟩ := h i x hx
  exact ⟨g, rfl, k.cell2 id h1⟩
theorem NV.own {w : World} {e : TypeId} {v : Value} {n : Nat} {xs : List Value} (h : Own w 1 e v n xs) : NV w v xs := by
  have hl : xs.length = n := by have := h.1; omega
  rcases h.2 with ⟨rfl, h0⟩ | ⟨g, k, r, rfl, hr, hm, hb⟩
  · obtain rfl := List.eq_nil_of_length_eq_zero (hl.trans h0)
    exact ⟨_, _, rfl, by simp⟩
  · exact ⟨_, _, by rw [hl], fun i x hx => ⟨g, rfl, (hb.cell _).trans (by rw [List.getElem?_append_left (List.getElem?_eq_some_iff.1 hx).1]; exact hx)⟩⟩
def u32s (l : List Nat) : List Value := l.map fun (n : Nat) => .int .u32 (n : Int)
theorem u32s_append (a b : List Nat) : u32s (a ++ b) = u32s a ++ u32s b := by simp [u32s]
@[simp] theorem u32s_length (l : List Nat) : (u32s l).length = l.length := by simp [u32s]
theorem u32s_at {l : List Nat} {i x : Nat} (h : l[i]? = some x) : (u32s l)[i]? = some (.int .u32 (x : Int)) := by simp [u32s, h]
def w64s (l : List Nat) : List Value := l.map fun (n : Nat) => .int .i64 (n : Int)
theorem w64s_at {l : List Nat} {i x : Nat} (h : l[i]? = some x) : (w64s l)[i]? = some (.int .i64 (x : Int)) := by simp [w64s, h]
@[simp] theorem w64s_length (l : List Nat) : (w64s l).length = l.length := by simp [w64s]
end Go.Roar
namespace Go.Proofs
open Go.RowKit Go.Roar

set_option maxRecDepth 100000 in
set_option maxHeartbeats 1000000 in
theorem numbers_any (v u : Value) (l : List Nat) (w : World) (hv : NV w v (u32s l)) (hu : NV w u (w64s l)) (hb : ∀ x ∈ l, x < 4294967296) (hn : l.length ≤ 1000000) :
    Calls Tryz.prog 13 #[v, u] w fun e w' => e = .returned (.bool true) ∧ Mild w w' := by
  obtain ⟨A, c, rfl, hv⟩ := hv
  obtain ⟨B, d, rfl, hu⟩ := hu
  have Hv := Lib.hid hv
  have Hu := Lib.hid hu
  have Hb := Lib.hid hb
  clear hv hu hb
  rw [u32s_length, w64s_length]
  generalize hl : l.length = n at *
  have Hl := Lib.hid hl
  clear hl
  go_enter Tryz.func13, Tryz.ntmps13
  go_wp2
  go_loopw [14] (fun i wr => ∃ k : Nat, i = .int .i64 k ∧ k ≤ n ∧ Hid (Mild w wr)) (fun i _ => n - (intOf i).toNat)
  case atStart => exact ⟨0, rfl, Nat.zero_le _, Lib.hid (Kept.refl _ _)⟩
  case round =>
    obtain ⟨k, rfl, hk, Hm⟩ := hrel
    by_cases hlt : k < n
    · obtain ⟨r, hx⟩ : ∃ r, l[k]? = some r := ⟨_, List.getElem?_eq_getElem (by rw [Hl.out]; exact hlt)⟩
      obtain ⟨g, rfl, a1⟩ := Hv.out k _ (u32s_at hx)
      obtain ⟨g', rfl, b1⟩ := Hu.out k _ (w64s_at hx)
      have r1 := Hb.out r (List.mem_of_getElem? hx)
      have ca := Hm.out.cell2 id a1
      have cb := Hm.out.cell2 id b1
      have i1 : (k : Int) < (n : Int) := by omega
      have u1 : IntKind.i64.wrap (r : Int) = (r : Int) := IntWalk.i64_in _ (by omega)
      clear a1 b1 hx
      go_wp2
      go_roundw
      case rel => exact ⟨k + 1, by go_num, by omega, Hm⟩
      case measure => simp only [intOf]; omega
    · obtain rfl : k = n := by omega
      go_wp2
      go_ret
      exact ⟨rfl, Hm.out⟩
end Go.Proofs

namespace Go.Roar
open Go.RowKit Go.Proofs
/-- A slice that reads cells of one element each, from any place of a block. -/
def OV (w : World) (v : Value) (xs : List Value) : Prop := ∃ A c, v = .slice A xs.length c ∧ ∀ (i : Nat) (x : Value), xs[i]? = some x → ∃ g o, A = some ⟨g, o, none⟩ ∧ w.cell? ⟨g, o + i, none⟩ = some x
/-- The same, and its place and room are told. -/
def OW (w : World) (v : Value) (xs : List Value) : Prop := (v = .slice none 0 0 ∧ xs = []) ∨ ∃ g o c, v = .slice (some ⟨g, o, none⟩) xs.length c ∧ xs.length ≤ c ∧ ∀ (i : Nat) (x : Value), xs[i]? = some x → w.cell? ⟨g, o + i, none⟩ = some x
theorem OW.mild {w w' : World} {v : Value} {xs : List Value} (h : OW w v xs) (k : Mild w w') : OW w' v xs := by
  rcases h with ⟨rfl, rfl⟩ | ⟨g, o, c, rfl, h1, h2⟩
  · exact .inl ⟨rfl, rfl⟩
  · exact .inr ⟨g, o, c, rfl, h1, fun i x hx => k.cell2 id (h2 i x hx)⟩
theorem OW.own {w : World} {e : TypeId} {v : Value} {n : Nat} {xs : List Value} (h : Own w 1 e v n xs) : OW w v xs := by
  have hl : xs.length = n := by have := h.1; omega
  rcases h.2 with ⟨rfl, h0⟩ | ⟨g, k, r, rfl, hr, hm, hb⟩
  · obtain rfl := List.eq_nil_of_length_eq_zero (hl.trans h0)
    exact .inl ⟨rfl, rfl⟩
  · exact .inr ⟨g, 0, _, by rw [hl], by omega, fun i x hx => by rw [Nat.zero_add]; exact (hb.cell _).trans (by rw [List.getElem?_append_left (List.getElem?_eq_some_iff.1 hx).1]; exact hx)⟩
end Go.Roar
namespace Go.Proofs
open Go.RowKit Go.Roar
theorem infoI64o : (Tryz.prog.info? 3).map (·.size) = some 1 := by kernel_rfl
theorem undI64o : Tryz.prog.underlying 38 = some (.slice 3) := by kernel_rfl
theorem run_slice_nil {P : Program} (w : World) {t e : TypeId} {sz : Nat} (ht : P.underlying t = some (.slice e)) (hs : (P.info? e).map (·.size) = some sz) (k : IntKind) :
    (Instr.slice t (.slice none 0 0) (some (.int k 0)) none none).run P w = .ok (.slice none 0 0) w := by
  cases hq : P.info? e with
  | none => simp [hq] at hs
  | some i =>
    simp only [Instr.slice, Sem.run_bind, run_underlying ht, Result.andThen_ok, Instr.sliceBounds, Instr.sliceBound]
    simp [sizeOf, typeInfo, hq, asIntOf, go_sem]
/-- A slice, its head and its tail. -/
theorem ow_cut {w : World} {v : Value} {xs : List Value} (h : OW w v xs) (k : Nat) (hk : k ≤ xs.length) :
    ∃ A c v1 v2, v = .slice A xs.length c ∧ OV w v1 (xs.take k) ∧ OW w v2 (xs.drop k) ∧ (∀ W, (Instr.slice 38 (.slice A xs.length c) none (some (.int .i64 (k : Int))) none).run Tryz.prog W = .ok v1 W) ∧ ∀ W, (Instr.slice 38 (.slice A xs.length c) (some (.int .i64 (k : Int))) none none).run Tryz.prog W = .ok v2 W := by
  rcases h with ⟨rfl, rfl⟩ | ⟨g, o, c, rfl, h1, h2⟩
  · obtain rfl : k = 0 := by simpa using hk
    exact ⟨none, 0, _, _, rfl, ⟨none, 0, rfl, by simp⟩, .inl ⟨rfl, rfl⟩, fun W => run_slice_to W undI64o infoI64o none 0 0 0 .i64 _ rfl (Nat.le_refl _), fun W => run_slice_nil W undI64o infoI64o .i64⟩
  · refine ⟨some ⟨g, o, none⟩, c, _, _, rfl, ⟨some ⟨g, o, none⟩, c, ?_, fun i x hx => ⟨g, o, rfl, ?_⟩⟩, ?_, fun W => run_slice_to W undI64o infoI64o _ _ c k .i64 _ rfl (by omega), fun W => run_slice_from W undI64o infoI64o g o _ c k .i64 _ rfl hk⟩
    · rw [List.length_take, Nat.min_eq_left hk]
    · rw [List.getElem?_take] at hx
      split at hx
      · exact h2 i x hx
      · cases hx
    · rcases Nat.lt_or_ge k c with hc | hc
      · rw [tlA_of hc, Nat.mul_one]
        refine .inr ⟨g, o + k, c - k, by rw [List.length_drop], by rw [List.length_drop]; omega, fun i x hx => ?_⟩
        rw [List.getElem?_drop] at hx
        rw [Nat.add_assoc]
        exact h2 _ _ hx
      · have e : xs.drop k = [] := List.drop_eq_nil_of_le (by omega)
        rw [e]
        refine .inr ⟨g, o, c - k, ?_, Nat.zero_le _, fun i x hx => by simp at hx⟩
        unfold tlA
        rw [if_pos (by omega), show xs.length - k = 0 by omega]; rfl

set_option maxRecDepth 100000 in
set_option maxHeartbeats 1000000 in
theorem numbersO_any (v u : Value) (l : List Nat) (w : World) (hv : NV w v (u32s l)) (hu : OV w u (w64s l)) (hb : ∀ x ∈ l, x < 4294967296) (hn : l.length ≤ 1000000) :
    Calls Tryz.prog 13 #[v, u] w fun e w' => e = .returned (.bool true) ∧ Mild w w' := by
  obtain ⟨A, c, rfl, hv⟩ := hv
  obtain ⟨B, d, rfl, hu⟩ := hu
  have Hv := Lib.hid hv
  have Hu := Lib.hid hu
  have Hb := Lib.hid hb
  clear hv hu hb
  rw [u32s_length, w64s_length]
  generalize hl : l.length = n at *
  have Hl := Lib.hid hl
  clear hl
  go_enter Tryz.func13, Tryz.ntmps13
  go_wp2
  go_loopw [14] (fun i wr => ∃ k : Nat, i = .int .i64 k ∧ k ≤ n ∧ Hid (Mild w wr)) (fun i _ => n - (intOf i).toNat)
  case atStart => exact ⟨0, rfl, Nat.zero_le _, Lib.hid (Kept.refl _ _)⟩
  case round =>
    obtain ⟨k, rfl, hk, Hm⟩ := hrel
    by_cases hlt : k < n
    · obtain ⟨r, hx⟩ : ∃ r, l[k]? = some r := ⟨_, List.getElem?_eq_getElem (by rw [Hl.out]; exact hlt)⟩
      obtain ⟨g, rfl, a1⟩ := Hv.out k _ (u32s_at hx)
      obtain ⟨g', o', rfl, b1⟩ := Hu.out k _ (w64s_at hx)
      have r1 := Hb.out r (List.mem_of_getElem? hx)
      have ca := Hm.out.cell2 id a1
      have cb := Hm.out.cell2 id b1
      have i1 : (k : Int) < (n : Int) := by omega
      have u1 : IntKind.i64.wrap (r : Int) = (r : Int) := IntWalk.i64_in _ (by omega)
      clear a1 b1 hx
      go_wp2
      go_roundw
      case rel => exact ⟨k + 1, by go_num, by omega, Hm⟩
      case measure => simp only [intOf]; omega
    · obtain rfl : k = n := by omega
      go_wp2
      go_ret
      exact ⟨rfl, Hm.out⟩
end Go.Proofs
