/-
  laws.numbers: two lists of numbers are the same.
-/
import Derived.Test.YtplpoejknbhinaaGreatDoorJWh
namespace Go.Roar
open Go.RowKit Go.Proofs
/-- A slice that reads cells of one element each. -/
def NV (w : World) (v : Value) (xs : List Value) : Prop := ∃ A c, v = .slice A xs.length c ∧ ∀ (i : Nat) (x : Value), xs[i]? = some x → ∃ g, A = some ⟨g, 0, none⟩ ∧ w.cell? ⟨g, i, none⟩ = some x
theorem NV.mild {w w' : World} {v : Value} {xs : List Value} (h : NV w v xs) (k : Mild w w') : NV w' v xs := by
  obtain ⟨A, c, rfl, h⟩ := h
  refine ⟨A, c, rfl, fun i x hx => ?_⟩
  obtain ⟨g, rfl, h1⟩ := h i x hx
  exact ⟨g, rfl, k.cell2 id h1⟩
theorem NV.own {w : World} {e : TypeId} {v : Value} {n : Nat} {xs : List Value} (h : Own w 1 e v n xs) : NV w v xs := by
  have hl : xs.length = n := by have := h.1; omega
  rcases h.2 with ⟨rfl, h0⟩ | ⟨g, k, r, rfl, hr, hm, hb⟩
  · obtain rfl := List.eq_nil_of_length_eq_zero (hl.trans h0)
    exact ⟨_, _, rfl, by simp⟩
  · exact ⟨_, _, by rw [hl], fun i x hx => ⟨g, rfl, (hb.cell _).trans (by rw [List.getElem?_append_left (List.getElem?_eq_some_iff.1 hx).1]; exact hx)⟩⟩
def u32s (l : List Nat) : List Value := l.map fun (n : Nat) => .int .u32 (n : Int)
theorem u32s_append (a b : List Nat) : u32s (a ++ b) = u32s a ++ u32s b := by simp [u32s]
@[simp] theorem u32s_length (l : List Nat) : (u32s l).length = l.length := by simp [u32s]
theorem u32s_at {l : List Nat} {i x : Nat} (h : l[i]? = some x) : (u32s l)[i]? = some (.int .u32 (x : Int)) := by simp [u32s, h]
def w64s (l : List Nat) : List Value := l.map fun (n : Nat) => .int .i64 (n : Int)
theorem w64s_at {l : List Nat} {i x : Nat} (h : l[i]? = some x) : (w64s l)[i]? = some (.int .i64 (x : Int)) := by simp [w64s, h]
@[simp] theorem w64s_length (l : List Nat) : (w64s l).length = l.length := by simp [w64s]
end Go.Roar
namespace Go.Proofs
open Go.RowKit Go.Roar

set_option maxRecDepth 100000 in
set_option maxHeartbeats 1000000 in
theorem numbers_any (v u : Value) (l : List Nat) (w : World) (hv : NV w v (u32s l)) (hu : NV w u (w64s l)) (hb : ∀ x ∈ l, x < 4294967296) (hn : l.length ≤ 1000000) :
    Calls Tryz.prog 5 #[v, u] w fun e w' => e = .returned (.bool true) ∧ Mild w w' := by
  obtain ⟨A, c, rfl, hv⟩ := hv
  obtain ⟨B, d, rfl, hu⟩ := hu
  have Hv := Lib.hid hv
  have Hu := Lib.hid hu
  have Hb := Lib.hid hb
  clear hv hu hb
  rw [u32s_length, w64s_length]
  generalize hl : l.length = n at *
  have Hl := Lib.hid hl
  clear hl
  go_enter Tryz.func5, Tryz.ntmps5
  go_wp2
  go_loopw [14] (fun i wr => ∃ k : Nat, i = .int .i64 k ∧ k ≤ n ∧ Hid (Mild w wr)) (fun i _ => n - (intOf i).toNat)
  case atStart => exact ⟨0, rfl, Nat.zero_le _, Lib.hid (Kept.refl _ _)⟩
  case round =>
    obtain ⟨k, rfl, hk, Hm⟩ := hrel
    by_cases hlt : k < n
    · obtain ⟨r, hx⟩ : ∃ r, l[k]? = some r := ⟨_, List.getElem?_eq_getElem (by rw [Hl.out]; exact hlt)⟩
      obtain ⟨g, rfl, a1⟩ := Hv.out k _ (u32s_at hx)
      obtain ⟨g', rfl, b1⟩ := Hu.out k _ (w64s_at hx)
      have r1 := Hb.out r (List.mem_of_getElem? hx)
      have ca := Hm.out.cell2 id a1
      have cb := Hm.out.cell2 id b1
      have i1 : (k : Int) < (n : Int) := by omega
      have u1 : IntKind.i64.wrap (r : Int) = (r : Int) := IntWalk.i64_in _ (by omega)
      clear a1 b1 hx
      go_wp2
      go_roundw
      case rel => exact ⟨k + 1, by go_num, by omega, Hm⟩
      case measure => simp only [intOf]; omega
    · obtain rfl : k = n := by omega
      go_wp2
      go_ret
      exact ⟨rfl, Hm.out⟩
end Go.Proofs
