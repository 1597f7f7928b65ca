/-
  laws.is, spec.Count, spec.Plain.
-/
import Derived.Test.YtbfjpbpohkidoaaGreatDoorTd
import Derived.Deep.QuietTactic
import Derived.BigQuiet
namespace Go.Roar
open Go.RowKit Go.Proofs

/-- A slice that reads ranges, as wide numbers. -/
def RV (w : World) (v : Value) (rs : List (Nat × Nat)) : Prop :=
  ∃ A c, v = .slice A rs.length c ∧ ∀ (i : Nat) (r : Nat × Nat), rs[i]? = some r → ∃ g, A = some ⟨g, 0, none⟩ ∧ w.cell? ⟨g, i * 2, none⟩ = some (.int .i64 (r.1 : Int)) ∧ w.cell? ⟨g, i * 2 + 1, none⟩ = some (.int .i64 (r.2 : Int))
theorem RV.kept {S : Nat → Prop} {w w' : World} {v : Value} {rs : List (Nat × Nat)} (h : RV w v rs) (hk : Kept S w w') (hs : ∀ b ∈ blkOf v, ¬ S b) : RV w' v rs := by
  obtain ⟨A, c, rfl, h⟩ := h
  refine ⟨A, c, rfl, fun i r hr => ?_⟩
  obtain ⟨g, rfl, h1, h2⟩ := h i r hr
  exact ⟨g, rfl, hk.cell2 (hs g (by simp)) h1, hk.cell2 (hs g (by simp)) h2⟩
theorem RV.mild {w w' : World} {v : Value} {rs : List (Nat × Nat)} (h : RV w v rs) (hk : Mild w w') : RV w' v rs := h.kept hk (fun _ _ => id)
/-- A slice that reads ranges, as narrow numbers. -/
def SV (w : World) (v : Value) (rs : List (Nat × Nat)) : Prop :=
  ∃ A c, v = .slice A rs.length c ∧ ∀ (i : Nat) (r : Nat × Nat), rs[i]? = some r → ∃ g, A = some ⟨g, 0, none⟩ ∧ w.cell? ⟨g, i * 2, none⟩ = some (.int .u32 (r.1 : Int)) ∧ w.cell? ⟨g, i * 2 + 1, none⟩ = some (.int .u32 (r.2 : Int))
theorem SV.kept {S : Nat → Prop} {w w' : World} {v : Value} {rs : List (Nat × Nat)} (h : SV w v rs) (hk : Kept S w w') (hs : ∀ b ∈ blkOf v, ¬ S b) : SV w' v rs := by
  obtain ⟨A, c, rfl, h⟩ := h
  refine ⟨A, c, rfl, fun i r hr => ?_⟩
  obtain ⟨g, rfl, h1, h2⟩ := h i r hr
  exact ⟨g, rfl, hk.cell2 (hs g (by simp)) h1, hk.cell2 (hs g (by simp)) h2⟩
theorem rgCells_at {rs : List (Nat × Nat)} {i : Nat} {r : Nat × Nat} (h : rs[i]? = some r) : (rgCells rs)[i * 2]? = some (.int .u32 (r.1 : Int)) ∧ (rgCells rs)[i * 2 + 1]? = some (.int .u32 (r.2 : Int)) := by
  obtain ⟨hi, rfl⟩ := List.getElem?_eq_some_iff.1 h
  have e : rgCells rs = rgCells (rs.take i) ++ rgCells (rs[i] :: rs.drop (i + 1)) := by
    rw [← rgCells_append]; congr 1
    rw [← List.drop_eq_getElem_cons hi, List.take_append_drop]
  have hl : (rgCells (rs.take i)).length = i * 2 := by rw [rgCells_length, List.length_take]; omega
  rw [e]
  constructor
  · rw [List.getElem?_append_right (by omega), hl, Nat.sub_self]; rfl
  · rw [List.getElem?_append_right (by omega), hl, show i * 2 + 1 - i * 2 = 1 by omega]; rfl
theorem SV.own {w : World} {v : Value} {rs : List (Nat × Nat)} (h : Own w 2 42 v rs.length (rgCells rs)) : SV w v rs := by
  rcases h.2 with ⟨rfl, h0⟩ | ⟨g, k, r, rfl, hr, hm, hb⟩
  · obtain rfl := List.eq_nil_of_length_eq_zero h0
    exact ⟨_, _, rfl, by simp⟩
  · refine ⟨_, _, rfl, fun i x hx => ⟨g, rfl, ?_, ?_⟩⟩
    · have e := (rgCells_at hx).1
      exact (hb.cell _).trans (by rw [List.getElem?_append_left (List.getElem?_eq_some_iff.1 e).1]; exact e)
    · have e := (rgCells_at hx).2
      exact (hb.cell _).trans (by rw [List.getElem?_append_left (List.getElem?_eq_some_iff.1 e).1]; exact e)
end Go.Roar
namespace Go.Proofs
open Go.RowKit Go.Roar

set_option maxRecDepth 100000 in
set_option maxHeartbeats 1000000 in
theorem is_any (v u : Value) (rs : List (Nat × Nat)) (w : World) (hv : SV w v rs) (hu : RV w u rs) (hb : ∀ r ∈ rs, r.1 < 4294967296 ∧ r.2 < 4294967296) (hn : rs.length ≤ 1000000) :
    Calls Tryz.prog 10 #[v, u] w fun e w' => e = .returned (.bool true) ∧ Mild w w' := by
  obtain ⟨A, c, rfl, hv⟩ := hv
  obtain ⟨B, d, rfl, hu⟩ := hu
  have Hv := Lib.hid hv
  have Hu := Lib.hid hu
  have Hb := Lib.hid hb
  clear hv hu hb
  generalize hl : rs.length = n at *
  have Hl := Lib.hid hl
  clear hl
  go_enter Tryz.func10, Tryz.ntmps10
  go_wp2
  go_loopw [14] (fun i wr => ∃ k : Nat, i = .int .i64 k ∧ k ≤ n ∧ Hid (Mild w wr)) (fun i _ => n - (intOf i).toNat)
  case atStart => exact ⟨0, rfl, Nat.zero_le _, Lib.hid (Kept.refl _ _)⟩
  case round =>
    obtain ⟨k, rfl, hk, Hm⟩ := hrel
    by_cases hlt : k < n
    · obtain ⟨r, hx⟩ : ∃ r, rs[k]? = some r := ⟨_, List.getElem?_eq_getElem (by rw [Hl.out]; exact hlt)⟩
      obtain ⟨g, rfl, a1, a2⟩ := Hv.out k r hx
      obtain ⟨g', rfl, b1, b2⟩ := Hu.out k r hx
      obtain ⟨r1, r2⟩ := Hb.out r (List.mem_of_getElem? hx)
      have ca := Hm.out.cell2 id a1
      have cb := Hm.out.cell2 id a2
      have kA : Mild wr (wr.alloc (.cells #[.int .u32 (r.1 : Int), .int .u32 (r.2 : Int)] 42)) := (Kept.refl _ _).alloc _
      have da := kA.cell2 id (Hm.out.cell2 id b1)
      have db := kA.cell2 id (Hm.out.cell2 id b2)
      have i1 : (k : Int) < (n : Int) := by omega
      have u1 : IntKind.i64.wrap (r.1 : Int) = (r.1 : Int) := IntWalk.i64_in _ (by omega)
      have u2 : IntKind.i64.wrap (r.2 : Int) = (r.2 : Int) := IntWalk.i64_in _ (by omega)
      have HkA := Lib.hid (Hm.out.trans kA)
      have nb := Blk.new wr 42 [.int .u32 (r.1 : Int), .int .u32 (r.2 : Int)]
      have n0 := nb.cell 0
      have n1 := nb.cell 1
      simp only [List.getElem?_cons_zero, List.getElem?_cons_succ] at n0 n1
      clear a1 a2 b1 b2 hx kA nb
      go_wp2
      go_quiet (fail)
      go_wp2
      go_roundw
      case rel => exact ⟨k + 1, by go_num, by omega, Lib.hid (HkA.out.drewN _)⟩
      case measure => simp only [intOf]; omega
    · obtain rfl : k = n := by omega
      go_wp2
      go_ret
      exact ⟨rfl, Hm.out⟩

set_option maxRecDepth 100000 in
set_option maxHeartbeats 1000000 in
theorem count_any (u : Value) (rs : List (Nat × Nat)) (w : World) (hu : RV w u rs) (hb : ∀ r ∈ rs, r.1 ≤ r.2 ∧ r.2 < 4294967296) (hn : rs.length ≤ 1000000) :
    Calls Tryz.prog 12 #[u] w fun e w' => e = .returned (.int .i64 (rgCard rs : Nat)) ∧ Mild w w' := by
  obtain ⟨B, d, rfl, hu⟩ := hu
  have hts : ∀ (k : Nat) (r : Nat × Nat), rs[k]? = some r → rgCard (rs.take (k + 1)) = rgCard (rs.take k) + (r.2 - r.1 + 1) := by
    intro k r hx
    obtain ⟨hk, rfl⟩ := List.getElem?_eq_some_iff.1 hx
    rw [List.take_succ_eq_append_getElem hk, rgCard_append, rgCard_cons]; rfl
  have hbd : ∀ k, k ≤ rs.length → rgCard (rs.take k) ≤ k * 4294967296 := by
    intro k
    induction k with
    | zero => intro _; simp [rgCard]
    | succ k ih =>
      intro hk
      have := ih (by omega)
      have h1 := hts k rs[k] (List.getElem?_eq_getElem (by omega))
      have h2 := hb rs[k] (List.getElem_mem _)
      omega
  have Hts := Lib.hid hts
  have Hbd := Lib.hid hbd
  have Hu := Lib.hid hu
  have Hb := Lib.hid hb
  clear hu hb hts hbd
  have hl : rs.length = rs.length := rfl
  generalize hln : rs.length = n at *
  have Hl := Lib.hid hln
  clear hln hl
  go_enter Tryz.func12, Tryz.ntmps12
  go_wp2
  go_loopw [8, 3] (fun i x wr => ∃ k : Nat, i = .int .i64 k ∧ x = .int .i64 (rgCard (rs.take k) : Nat) ∧ k ≤ n ∧ Hid (Mild w wr)) (fun i _ _ => n - (intOf i).toNat)
  case atStart => exact ⟨0, rfl, rfl, Nat.zero_le _, Lib.hid (Kept.refl _ _)⟩
  case round =>
    obtain ⟨k, rfl, rfl, hk, Hm⟩ := hrel
    by_cases hlt : k < n
    · obtain ⟨r, hx⟩ : ∃ r, rs[k]? = some r := ⟨_, List.getElem?_eq_getElem (by rw [Hl.out]; exact hlt)⟩
      obtain ⟨g, rfl, a1, a2⟩ := Hu.out k r hx
      obtain ⟨r1, r2⟩ := Hb.out r (List.mem_of_getElem? hx)
      have ca := Hm.out.cell2 id a1
      have cb := Hm.out.cell2 id a2
      have i1 : (k : Int) < (n : Int) := by omega
      have t1 := Hts.out k r hx
      have t2 := Hbd.out (k + 1) (by omega)
      have t3 := Hbd.out k hk
      generalize hT1 : rgCard (rs.take (k + 1)) = T1 at *
      generalize hT0 : rgCard (rs.take k) = T0 at *
      have HT1 := Lib.hid hT1
      clear a1 a2 hx hT1 hT0
      go_wp2
      go_roundw
      case rel => exact ⟨k + 1, by go_num, by rw [HT1.out, t1]; go_num, by omega, Lib.hid (Hm.out.alloc _)⟩
      case measure => simp only [intOf]; omega
    · obtain rfl : k = n := by omega
      go_wp2
      go_ret
      have e : rs.take k = rs := by rw [← Hl.out, List.take_length]
      rw [e]
      exact ⟨rfl, Hm.out⟩

theorem plain_any (u : Value) (rs : List (Nat × Nat)) (w : World) (hu : RV w u rs) (hb : ∀ r ∈ rs, r.1 ≤ r.2 ∧ r.2 < 4294967296) (hn : rs.length ≤ 1000000) :
    Calls Tryz.prog 6 #[u] w fun e w' => e = .returned (.int .i64 ((if rgCard rs ≤ 4096 then 0 else 1 : Nat) : Int)) ∧ Mild w w' := by
  have C := Lib.hid (count_any u rs w hu hb hn)
  clear hu hb hn
  by_cases h : rgCard rs ≤ 4096
  · rw [if_pos h]
    go_enter Tryz.func6, Tryz.ntmps6
    go_wp2_with (first | (go_at_call 12; refine C.out.mono ?_; rintro ed w2 ⟨rfl, k2⟩))
    go_ret
    exact ⟨rfl, k2⟩
  · rw [if_neg h]
    go_enter Tryz.func6, Tryz.ntmps6
    go_wp2_with (first | (go_at_call 12; refine C.out.mono ?_; rintro ed w2 ⟨rfl, k2⟩))
    go_ret
    exact ⟨rfl, k2⟩
end Go.Proofs
