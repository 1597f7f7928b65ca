/-
  The iterators of the containers: of 16-bit numbers, of a set of bits.
  The iterator of a container of runs.
  What is left of the numbers of one container, as its iterator stands in the cells of the great iterator's block.
  roaringArray's size, getKeyAtIndex, getContainerAtIndex.
-/
import Derived.Test.YtjjijipfhnoomaaGreatDoorJNb
import Derived.Test.YtjjijipfhnoomaaGreatDoorJHeap
import Derived.Deep.RegionHeld3
namespace Go.Proofs
open Go.RowKit Go.Roar

set_option maxRecDepth 100000 in
set_option maxHeartbeats 1000000 in
theorem siHas_any (I o : Nat) (G : Option Addr) (j m c : Nat) (w : World) (h0 : w.cell? ⟨I, o, none⟩ = some (.slice G m c)) (h1 : w.cell? ⟨I, o + 1, none⟩ = some (.int .i64 (j : Int))) :
    Calls Tryz.prog 307 #[.pointer (some ⟨I, o, none⟩)] w fun e w' => e = .returned (.bool (decide (j < m))) ∧ Mild w w' := by
  go_enter Tryz.func307, Tryz.ntmps307
  go_wp2
  go_quiet (fail)
  go_wp2
  go_ret
  exact ⟨rfl, (Kept.refl _ _).drewN _⟩

set_option maxRecDepth 100000 in
set_option maxHeartbeats 1000000 in
theorem siNext_any (I o g j m c x : Nat) (w : World) (h0 : w.cell? ⟨I, o, none⟩ = some (.slice (some ⟨g, 0, none⟩) m c)) (h1 : w.cell? ⟨I, o + 1, none⟩ = some (.int .i64 (j : Int)))
    (hf : w.frozen? ⟨I, o + 1, none⟩ = false) (hj : j < m) (hm : m ≤ 1000000) (hx : w.cell? ⟨g, j, none⟩ = some (.int .u16 (x : Int))) :
    Calls Tryz.prog 308 #[.pointer (some ⟨I, o, none⟩)] w fun e w' => e = .returned (.int .u16 (x : Int)) ∧ ∃ n, w' = (w.drewN n).setCell ⟨I, o + 1, none⟩ (.int .i64 ((j + 1 : Nat) : Int)) := by
  have i1 : ((j : Int) < (m : Int)) = True := by simp; omega
  go_enter Tryz.func308, Tryz.ntmps308
  go_wp2
  go_quiet (fail)
  go_wp2
  go_ret
  exact ⟨rfl, nq, rfl⟩

set_option maxRecDepth 100000 in
set_option maxHeartbeats 1000000 in
theorem biHas_any (I o : Nat) (i : Int) (w : World) (h1 : w.cell? ⟨I, o + 1, none⟩ = some (.int .i64 i)) :
    Calls Tryz.prog 315 #[.pointer (some ⟨I, o, none⟩)] w fun e w' => e = .returned (.bool (decide (0 ≤ i))) ∧ Mild w w' := by
  go_enter Tryz.func315, Tryz.ntmps315
  go_wp2
  go_ret
  exact ⟨by simp, Kept.refl _ _⟩

theorem nsb_int (p g c : Nat) (ws : List Nat) (i : Nat) (X : Int) (w : World) (hX : X = (i : Int)) (hl : ws.length = 1024) (hb : ∀ x ∈ ws, x < 18446744073709551616) (hi : i ≤ 65536) (hT : Tab w)
    (hv : w.cell? ⟨p, 1, none⟩ = some (.slice (some ⟨g, 0, none⟩) 1024 c)) (ho : Own w 1 23 (.slice (some ⟨g, 0, none⟩) 1024 c) 1024 (u64s ws)) :
    Calls Tryz.prog 73 #[.pointer (some ⟨p, 0, none⟩), .int .u64 X] w fun e w' => e = .returned (.int .i64 (nsb ws i)) ∧ w = w' := by
  subst hX; exact nsb_any p g c ws i w hl hb hi hT hv ho

set_option maxRecDepth 100000 in
set_option maxHeartbeats 1000000 in
theorem biNext_any (I o p g c i : Nat) (ws : List Nat) (w : World) (h0 : w.cell? ⟨I, o, none⟩ = some (.pointer (some ⟨p, 0, none⟩))) (h1 : w.cell? ⟨I, o + 1, none⟩ = some (.int .i64 (i : Int)))
    (hf : w.frozen? ⟨I, o + 1, none⟩ = false) (hi : i < 65536) (hl : ws.length = 1024) (hb : ∀ x ∈ ws, x < 18446744073709551616) (hT : Tab w)
    (hv : w.cell? ⟨p, 1, none⟩ = some (.slice (some ⟨g, 0, none⟩) 1024 c)) (ho : Own w 1 23 (.slice (some ⟨g, 0, none⟩) 1024 c) 1024 (u64s ws)) :
    Calls Tryz.prog 316 #[.pointer (some ⟨I, o, none⟩)] w fun e w' => e = .returned (.int .u16 (i : Int)) ∧ ∃ n, w' = (w.drewN n).setCell ⟨I, o + 1, none⟩ (.int .i64 (nsb ws (i + 1))) := by
  have H := Lib.hid (nsb_int p g c ws (i + 1) ((i : Int) + 1) w.drew (by omega) hl hb (by omega) hT hv ho)
  have u1 : IntKind.u64.wrap (i : Int) = (i : Int) := IntWalk.u64_in _ (by omega)
  have u2 : IntKind.u64.wrap ((i : Int) + 1) = (i : Int) + 1 := IntWalk.u64_in _ (by omega)
  clear hl hb hT ho
  go_enter Tryz.func316, Tryz.ntmps316
  go_wp2
  go_region_with (first
    | (go_at_call 73; ((with_reducible refine H.out.mono ?_); rintro ed w2 ⟨rfl, rfl⟩)))
  all_goals
    go_wp2
    go_ret
    refine ⟨by first | rfl | exact ret_int (by go_num), 1, rfl⟩
end Go.Proofs

namespace Go.Proofs
open Go.RowKit Go.Roar

set_option maxRecDepth 100000 in
set_option maxHeartbeats 1000000 in
theorem riHas_end (I o q j : Nat) (G : Option Addr) (m c : Nat) (w : World) (h0 : w.cell? ⟨I, o, none⟩ = some (.pointer (some ⟨q, 0, none⟩))) (h1 : w.cell? ⟨I, o + 1, none⟩ = some (.int .i64 (j : Int)))
    (hq : w.cell? ⟨q, 0, none⟩ = some (.slice G m c)) (hj : m ≤ j) (hb : j ≤ 1000000) :
    Calls Tryz.prog 311 #[.pointer (some ⟨I, o, none⟩)] w fun e w' => e = .returned (.bool false) ∧ Mild w w' := by
  have w1 : IntKind.i64.wrap ((j : Int) + 1) = (j : Int) + 1 := IntWalk.i64_in _ (by omega)
  have d1 : decide ((j : Int) + 1 < (m : Int)) = false := by simp; omega
  have d2 : ((m : Int) == (j : Int) + 1) = false := by simp; omega
  go_enter Tryz.func311, Tryz.ntmps311
  go_wp2
  go_quiet (fail)
  go_wp2
  go_ret
  exact ⟨rfl, (Kept.refl _ _).drewN _⟩

set_option maxRecDepth 100000 in
set_option maxHeartbeats 1000000 in
theorem riHas_far (I o q j : Nat) (G : Option Addr) (m c : Nat) (w : World) (h0 : w.cell? ⟨I, o, none⟩ = some (.pointer (some ⟨q, 0, none⟩))) (h1 : w.cell? ⟨I, o + 1, none⟩ = some (.int .i64 (j : Int)))
    (hq : w.cell? ⟨q, 0, none⟩ = some (.slice G m c)) (hj : j + 1 < m) (hb : m ≤ 1000000) :
    Calls Tryz.prog 311 #[.pointer (some ⟨I, o, none⟩)] w fun e w' => e = .returned (.bool true) ∧ Mild w w' := by
  have w1 : IntKind.i64.wrap ((j : Int) + 1) = (j : Int) + 1 := IntWalk.i64_in _ (by omega)
  have d1 : decide ((j : Int) + 1 < (m : Int)) = true := by simp; omega
  go_enter Tryz.func311, Tryz.ntmps311
  go_wp2
  go_quiet (fail)
  go_wp2
  go_ret
  exact ⟨rfl, (Kept.refl _ _).drewN _⟩

set_option maxRecDepth 100000 in
set_option maxHeartbeats 1000000 in
theorem riHas_last (I o q g j k len : Nat) (c : Nat) (w : World) (h0 : w.cell? ⟨I, o, none⟩ = some (.pointer (some ⟨q, 0, none⟩))) (h1 : w.cell? ⟨I, o + 1, none⟩ = some (.int .i64 (j : Int)))
    (h2 : w.cell? ⟨I, o + 2, none⟩ = some (.int .u16 (k : Int)))
    (hq : w.cell? ⟨q, 0, none⟩ = some (.slice (some ⟨g, 0, none⟩) (j + 1) c)) (hb : j ≤ 1000000) (hx : w.cell? ⟨g, j * 2 + 1, none⟩ = some (.int .u16 (len : Int))) (hk : k ≤ len) :
    Calls Tryz.prog 311 #[.pointer (some ⟨I, o, none⟩)] w fun e w' => e = .returned (.bool true) ∧ Mild w w' := by
  have w1 : IntKind.i64.wrap ((j : Int) + 1) = (j : Int) + 1 := IntWalk.i64_in _ (by omega)
  have d3 : decide ((k : Int) ≤ (len : Int)) = true := by simp; omega
  have i1 : (j : Int) < (j : Int) + 1 := by omega
  go_enter Tryz.func311, Tryz.ntmps311
  go_wp2
  go_quiet (fail)
  go_wp2
  go_ret
  exact ⟨rfl, (Kept.refl _ _).drewN _⟩

set_option maxRecDepth 100000 in
set_option maxHeartbeats 1000000 in
theorem riNext_in (I o q g j k st len m c : Nat) (w : World) (h0 : w.cell? ⟨I, o, none⟩ = some (.pointer (some ⟨q, 0, none⟩))) (h1 : w.cell? ⟨I, o + 1, none⟩ = some (.int .i64 (j : Int)))
    (h2 : w.cell? ⟨I, o + 2, none⟩ = some (.int .u16 (k : Int))) (hf2 : w.frozen? ⟨I, o + 2, none⟩ = false)
    (hq : w.cell? ⟨q, 0, none⟩ = some (.slice (some ⟨g, 0, none⟩) m c)) (hj : j < m) (hs : w.cell? ⟨g, j * 2, none⟩ = some (.int .u16 (st : Int))) (hx : w.cell? ⟨g, j * 2 + 1, none⟩ = some (.int .u16 (len : Int)))
    (hk : k < len) (hl : st + len < 65536) :
    Calls Tryz.prog 312 #[.pointer (some ⟨I, o, none⟩)] w fun e w' => e = .returned (.int .u16 ((st + k : Nat) : Int)) ∧ ∃ n, w' = (w.drewN n).setCell ⟨I, o + 2, none⟩ (.int .u16 ((k + 1 : Nat) : Int)) := by
  have i1 : (j : Int) < (m : Int) := by omega
  have d3 : ((k : Int) == (len : Int)) = false := by simp; omega
  go_enter Tryz.func312, Tryz.ntmps312
  go_wp2
  go_quiet (fail)
  go_wp2
  go_quiet (fail)
  go_wp2
  go_ret
  exact ⟨ret_int (by omega), _, by first | rfl | exact congrArg _ (int_eq (by omega))⟩

set_option maxRecDepth 100000 in
set_option maxHeartbeats 1000000 in
theorem riNext_out (I o q g j st len m c : Nat) (w : World) (h0 : w.cell? ⟨I, o, none⟩ = some (.pointer (some ⟨q, 0, none⟩))) (h1 : w.cell? ⟨I, o + 1, none⟩ = some (.int .i64 (j : Int)))
    (h2 : w.cell? ⟨I, o + 2, none⟩ = some (.int .u16 (len : Int))) (hf2 : w.frozen? ⟨I, o + 2, none⟩ = false) (hf1 : w.frozen? ⟨I, o + 1, none⟩ = false)
    (hq : w.cell? ⟨q, 0, none⟩ = some (.slice (some ⟨g, 0, none⟩) m c)) (hj : j < m) (hb : m ≤ 1000000) (hs : w.cell? ⟨g, j * 2, none⟩ = some (.int .u16 (st : Int))) (hx : w.cell? ⟨g, j * 2 + 1, none⟩ = some (.int .u16 (len : Int)))
    (hl : st + len < 65536) :
    Calls Tryz.prog 312 #[.pointer (some ⟨I, o, none⟩)] w fun e w' => e = .returned (.int .u16 ((st + len : Nat) : Int)) ∧ ∃ n, w' = ((w.drewN n).setCell ⟨I, o + 2, none⟩ (.int .u16 0)).setCell ⟨I, o + 1, none⟩ (.int .i64 ((j + 1 : Nat) : Int)) := by
  have i1 : (j : Int) < (m : Int) := by omega
  go_enter Tryz.func312, Tryz.ntmps312
  go_wp2
  go_quiet (fail)
  go_wp2
  go_quiet (fail)
  go_wp2
  go_ret
  exact ⟨ret_int (by omega), _, by first | rfl | exact congrArg _ (int_eq (by omega))⟩
end Go.Proofs

namespace Go.Roar
open Go.RowKit

/-- The numbers of runs, each its start and how many stand behind it. -/
def ivNums (rs : List (Nat × Nat)) : List Nat := rs.flatMap fun r => List.range' r.1 (r.2 + 1)
theorem ivNums_cons (r : Nat × Nat) (l : List (Nat × Nat)) : ivNums (r :: l) = List.range' r.1 (r.2 + 1) ++ ivNums l := by simp [ivNums]

def LowS (w : World) (H : Nat) (cs : List Value) (l : List Nat) : Prop :=
  ∃ (g j m c : Nat) (xs : List Nat), cs[4]? = some (.slice (some ⟨g, 0, none⟩) m c) ∧ cs[5]? = some (.int .i64 ((j : Nat) : Int)) ∧ g < H ∧ xs.length = m ∧ m ≤ 65536 ∧ (∀ (i x : Nat), xs[i]? = some x → w.cell? ⟨g, i, none⟩ = some (.int .u16 (x : Int))) ∧ j ≤ m ∧ l = xs.drop j
def LowR (w : World) (H : Nat) (cs : List Value) (l : List Nat) : Prop :=
  ∃ (q g j k m c : Nat) (rs : List (Nat × Nat)), cs[6]? = some (.pointer (some ⟨q, 0, none⟩)) ∧ cs[7]? = some (.int .i64 ((j : Nat) : Int)) ∧ cs[8]? = some (.int .u16 ((k : Nat) : Int)) ∧ q < H ∧ g < H ∧ w.cell? ⟨q, 0, none⟩ = some (.slice (some ⟨g, 0, none⟩) m c) ∧ rs.length = m ∧ m ≤ 65536 ∧
    (∀ r ∈ rs, r.1 + r.2 < 65536) ∧ (∀ (i : Nat) (r : Nat × Nat), rs[i]? = some r → w.cell? ⟨g, i * 2, none⟩ = some (.int .u16 (r.1 : Int)) ∧ w.cell? ⟨g, i * 2 + 1, none⟩ = some (.int .u16 (r.2 : Int))) ∧ RgOK 65536 (rs.map fun r => (r.1, r.1 + r.2)) ∧
    ((j = m ∧ l = []) ∨ ∃ r : Nat × Nat, rs[j]? = some r ∧ k ≤ r.2 ∧ l = List.range' (r.1 + k) (r.2 - k + 1) ++ ivNums (rs.drop (j + 1)))
def LowB (w : World) (H : Nat) (cs : List Value) (l : List Nat) : Prop :=
  ∃ (p g c : Nat) (ws : List Nat) (i : Nat), cs[9]? = some (.pointer (some ⟨p, 0, none⟩)) ∧ cs[10]? = some (.int .i64 (nsb ws i)) ∧ i ≤ 65536 ∧ p < H ∧ g < H ∧ ws.length = 1024 ∧ (∀ x ∈ ws, x < 18446744073709551616) ∧ w.cell? ⟨p, 1, none⟩ = some (.slice (some ⟨g, 0, none⟩) 1024 c) ∧
    Own w 1 23 (.slice (some ⟨g, 0, none⟩) 1024 c) 1024 (u64s ws) ∧ l = restFrom (bitOf ws) i

theorem LowS.kept {S : Nat → Prop} {w w' : World} {H : Nat} {cs : List Value} {l : List Nat} (h : LowS w H cs l) (hk : Kept S w w') (hs : ∀ b, b < H → ¬ S b) : LowS w' H cs l := by
  obtain ⟨g, j, m, c, xs, a1, a2, a3, a4, a5, a6, a7, a8⟩ := h
  exact ⟨g, j, m, c, xs, a1, a2, a3, a4, a5, fun i x hx => hk.cell2 (hs _ a3) (a6 i x hx), a7, a8⟩
theorem LowR.kept {S : Nat → Prop} {w w' : World} {H : Nat} {cs : List Value} {l : List Nat} (h : LowR w H cs l) (hk : Kept S w w') (hs : ∀ b, b < H → ¬ S b) : LowR w' H cs l := by
  obtain ⟨q, g, j, k, m, c, rs, a1, a2, a3, a4, a5, a6, a7, a8, a9, a10, a11⟩ := h
  exact ⟨q, g, j, k, m, c, rs, a1, a2, a3, a4, a5, hk.cell2 (hs _ a4) a6, a7, a8, a9, fun i r hr => ⟨hk.cell2 (hs _ a5) (a10 i r hr).1, hk.cell2 (hs _ a5) (a10 i r hr).2⟩, a11⟩
theorem LowB.kept {S : Nat → Prop} {w w' : World} {H : Nat} {cs : List Value} {l : List Nat} (h : LowB w H cs l) (hk : Kept S w w') (hs : ∀ b, b < H → ¬ S b) : LowB w' H cs l := by
  obtain ⟨p, g, c, ws, i, a1, a2, a3, a4, a5, a6, a7, a8, a9, a10⟩ := h
  exact ⟨p, g, c, ws, i, a1, a2, a3, a4, a5, a6, a7, hk.cell2 (hs _ a4) a8, a9.kept hk (by intro b hb; simp at hb; subst hb; exact hs _ a5), a10⟩

theorem restFrom_next {f : Nat → Bool} {i x : Nat} {l : List Nat} (h : restFrom f i = x :: l) : l = restFrom f (x + 1) ∧ x < 65536 := by
  induction hn : 65536 - i generalizing i with
  | zero => rw [restFrom_end f i (by omega)] at h; simp at h
  | succ n ih =>
    rw [restFrom_step f i (by omega)] at h
    split at h
    · simp only [List.cons.injEq] at h
      obtain ⟨rfl, rfl⟩ := h
      exact ⟨rfl, by omega⟩
    · exact ih h (by omega)
end Go.Roar
namespace Go.Proofs
open Go.RowKit Go.Roar

abbrev IIty := 103

theorem lowS_has (I H : Nat) (cs : List Value) (l : List Nat) (w : World) (hb : Blk w I IIty cs) (h : LowS w H cs l) :
    Calls Tryz.prog 307 #[.pointer (some ⟨I, 4, none⟩)] w fun e w' => e = .returned (.bool (decide (l ≠ []))) ∧ Mild w w' := by
  obtain ⟨g, j, m, c, xs, a1, a2, a3, a4, a5, a6, a7, rfl⟩ := h
  refine (siHas_any I 4 _ j m c w ((hb.cell 4).trans a1) ((hb.cell 5).trans a2)).mono ?_
  rintro e w' ⟨rfl, hk⟩
  have e : decide (j < m) = decide (xs.drop j ≠ []) := by rw [Bool.eq_iff_iff]; simp; omega
  exact ⟨by rw [e], hk⟩
theorem lowS_next (I H x : Nat) (cs : List Value) (l : List Nat) (w : World) (hb : Blk w I IIty cs) (hI : H ≤ I) (h : LowS w H cs (x :: l)) :
    Calls Tryz.prog 308 #[.pointer (some ⟨I, 4, none⟩)] w fun e w' => e = .returned (.int .u16 (x : Int)) ∧ ∃ cs', Blk w' I IIty cs' ∧ cs'.length = cs.length ∧ cs'.take 4 = cs.take 4 ∧ LowS w' H cs' l ∧ Kept (fun k => k = I) w w' := by
  obtain ⟨g, j, m, c, xs, a1, a2, a3, a4, a5, a6, a7, a8⟩ := h
  have hj : j < xs.length := by
    rcases Nat.lt_or_ge j xs.length with h | h
    · exact h
    · rw [List.drop_eq_nil_of_le h] at a8; simp at a8
  rw [List.drop_eq_getElem_cons hj] at a8
  simp only [List.cons.injEq] at a8
  obtain ⟨rfl, rfl⟩ := a8
  have hx : xs[j]? = some xs[j] := List.getElem?_eq_getElem hj
  refine (siNext_any I 4 g j m c xs[j] w ((hb.cell 4).trans a1) ((hb.cell 5).trans a2) (hb.free 5) (by omega) (by omega) (a6 _ _ hx)).mono ?_
  rintro e w' ⟨rfl, n, rfl⟩
  have hk : Kept (fun k => k = I) w ((w.drewN n).setCell ⟨I, 5, none⟩ (.int .i64 ((j + 1 : Nat) : Int))) := Mild.one ((Kept.refl _ _).drewN n) I 5 _
  have h5 : 5 < cs.length := (List.getElem?_eq_some_iff.1 a2).1
  refine ⟨rfl, _, (hb.drewN n).set 5 _, by simp, by rw [List.take_set_of_le (by omega)], ⟨g, j + 1, m, c, xs, ?_, ?_, a3, a4, a5, fun i x hx => hk.cell2 (by show ¬ g = I; omega) (a6 i x hx), by omega, rfl⟩, hk⟩
  · rw [List.getElem?_set_ne (by omega)]; exact a1
  · rw [List.getElem?_set_self h5]

theorem lowR_has (I H : Nat) (cs : List Value) (l : List Nat) (w : World) (hb : Blk w I IIty cs) (h : LowR w H cs l) :
    Calls Tryz.prog 311 #[.pointer (some ⟨I, 6, none⟩)] w fun e w' => e = .returned (.bool (decide (l ≠ []))) ∧ Mild w w' := by
  obtain ⟨q, g, j, k, m, c, rs, a1, a2, a3, a4, a5, a6, a7, a8, a9, a10, a11, ⟨rfl, rfl⟩ | ⟨r, hr, hk, rfl⟩⟩ := h
  · refine (riHas_end I 6 q j _ j c w ((hb.cell 6).trans a1) ((hb.cell 7).trans a2) a6 (Nat.le_refl _) (by omega)).mono ?_
    rintro e w' ⟨rfl, hk⟩
    exact ⟨by simp, hk⟩
  · have hj : j < rs.length := (List.getElem?_eq_some_iff.1 hr).1
    have hne : decide (List.range' (r.1 + k) (r.2 - k + 1) ++ ivNums (rs.drop (j + 1)) ≠ []) = true := by simp [List.range'_succ]
    rw [hne]
    rcases Nat.lt_or_ge (j + 1) m with h | h
    · exact riHas_far I 6 q j _ m c w ((hb.cell 6).trans a1) ((hb.cell 7).trans a2) a6 h (by omega)
    · obtain rfl : m = j + 1 := by omega
      exact riHas_last I 6 q g j k r.2 c w ((hb.cell 6).trans a1) ((hb.cell 7).trans a2) ((hb.cell 8).trans a3) a6 (by omega) (a10 _ _ hr).2 hk
theorem lowR_next (I H x : Nat) (cs : List Value) (l : List Nat) (w : World) (hb : Blk w I IIty cs) (hI : H ≤ I) (h : LowR w H cs (x :: l)) :
    Calls Tryz.prog 312 #[.pointer (some ⟨I, 6, none⟩)] w fun e w' => e = .returned (.int .u16 (x : Int)) ∧ ∃ cs', Blk w' I IIty cs' ∧ cs'.length = cs.length ∧ cs'.take 4 = cs.take 4 ∧ LowR w' H cs' l ∧ Kept (fun k => k = I) w w' := by
  obtain ⟨q, g, j, k, m, c, rs, a1, a2, a3, a4, a5, a6, a7, a8, a9, a10, a11, ⟨_, h⟩ | ⟨r, hr, hk, hl⟩⟩ := h
  · simp at h
  have hj : j < rs.length := (List.getElem?_eq_some_iff.1 hr).1
  have h7 : 7 < cs.length := (List.getElem?_eq_some_iff.1 a2).1
  have h8 : 8 < cs.length := (List.getElem?_eq_some_iff.1 a3).1
  have h9 := a9 r (List.mem_of_getElem? hr)
  rw [List.range'_succ] at hl
  simp only [List.cons_append, List.cons.injEq] at hl
  obtain ⟨rfl, rfl⟩ := hl
  rcases Nat.lt_or_ge k r.2 with hlt | hge
  · refine (riNext_in I 6 q g j k r.1 r.2 m c w ((hb.cell 6).trans a1) ((hb.cell 7).trans a2) ((hb.cell 8).trans a3) (hb.free 8) a6 (by omega) (a10 _ _ hr).1 (a10 _ _ hr).2 hlt h9).mono ?_
    rintro e w' ⟨rfl, n, rfl⟩
    have hk : Kept (fun k => k = I) w ((w.drewN n).setCell ⟨I, 8, none⟩ (.int .u16 ((k + 1 : Nat) : Int))) := Mild.one ((Kept.refl _ _).drewN n) I 8 _
    refine ⟨rfl, _, (hb.drewN n).set 8 _, by simp, by rw [List.take_set_of_le (by omega)], ⟨q, g, j, k + 1, m, c, rs, ?_, ?_, ?_, a4, a5, hk.cell2 (by show ¬ q = I; omega) a6, a7, a8, a9, fun i r hr => ⟨hk.cell2 (by show ¬ g = I; omega) (a10 i r hr).1, hk.cell2 (by show ¬ g = I; omega) (a10 i r hr).2⟩, a11, .inr ⟨r, hr, hlt, ?_⟩⟩, hk⟩
    · rw [List.getElem?_set_ne (by omega)]; exact a1
    · rw [List.getElem?_set_ne (by omega)]; exact a2
    · rw [List.getElem?_set_self h8]
    · rw [show r.2 - k = r.2 - (k + 1) + 1 by omega]; rfl
  · obtain rfl : k = r.2 := by omega
    refine (riNext_out I 6 q g j r.1 r.2 m c w ((hb.cell 6).trans a1) ((hb.cell 7).trans a2) ((hb.cell 8).trans a3) (hb.free 8) (hb.free 7) a6 (by omega) (by omega) (a10 _ _ hr).1 (a10 _ _ hr).2 h9).mono ?_
    rintro e w' ⟨rfl, n, rfl⟩
    have hk : Kept (fun k => k = I) w (((w.drewN n).setCell ⟨I, 8, none⟩ (.int .u16 0)).setCell ⟨I, 7, none⟩ (.int .i64 ((j + 1 : Nat) : Int))) := Kept.setCell (S := fun k => k = I) (p := ⟨I, 7, none⟩) (Mild.one ((Kept.refl _ _).drewN n) I 8 _) (fun _ => rfl) _
    refine ⟨rfl, _, ((hb.drewN n).set 8 _).set 7 _, by simp, by rw [List.take_set_of_le (by omega), List.take_set_of_le (by omega)], ⟨q, g, j + 1, 0, m, c, rs, ?_, ?_, ?_, a4, a5, hk.cell2 (by show ¬ q = I; omega) a6, a7, a8, a9, fun i r hr => ⟨hk.cell2 (by show ¬ g = I; omega) (a10 i r hr).1, hk.cell2 (by show ¬ g = I; omega) (a10 i r hr).2⟩, a11, ?_⟩, hk⟩
    · rw [List.getElem?_set_ne (by omega), List.getElem?_set_ne (by omega)]; exact a1
    · rw [List.getElem?_set_self (by simpa using h7)]
    · rw [List.getElem?_set_ne (by omega), List.getElem?_set_self h8]; rfl
    · rw [Nat.sub_self]
      rcases Nat.lt_or_ge (j + 1) rs.length with h | h
      · refine .inr ⟨rs[j + 1], List.getElem?_eq_getElem h, Nat.zero_le _, ?_⟩
        rw [List.drop_eq_getElem_cons h, ivNums_cons]; simp
      · refine .inl ⟨by omega, ?_⟩
        rw [List.drop_eq_nil_of_le h]; simp [ivNums]

theorem nsb_ge (ws : List Nat) (i : Nat) : decide (0 ≤ nsb ws i) = decide (restFrom (bitOf ws) i ≠ []) := by
  unfold nsb
  rw [Bool.eq_iff_iff]
  split <;> rename_i h <;> simp [h]
theorem lowB_has (I H : Nat) (cs : List Value) (l : List Nat) (w : World) (hb : Blk w I IIty cs) (h : LowB w H cs l) :
    Calls Tryz.prog 315 #[.pointer (some ⟨I, 9, none⟩)] w fun e w' => e = .returned (.bool (decide (l ≠ []))) ∧ Mild w w' := by
  obtain ⟨p, g, c, ws, i, a1, a2, a3, a4, a5, a6, a7, a8, a9, rfl⟩ := h
  rw [← nsb_ge]
  exact biHas_any I 9 _ w ((hb.cell 10).trans a2)
theorem lowB_next (I H x : Nat) (cs : List Value) (l : List Nat) (w : World) (hb : Blk w I IIty cs) (hI : H ≤ I) (hT : Tab w) (h : LowB w H cs (x :: l)) :
    Calls Tryz.prog 316 #[.pointer (some ⟨I, 9, none⟩)] w fun e w' => e = .returned (.int .u16 (x : Int)) ∧ ∃ cs', Blk w' I IIty cs' ∧ cs'.length = cs.length ∧ cs'.take 4 = cs.take 4 ∧ LowB w' H cs' l ∧ Kept (fun k => k = I) w w' := by
  obtain ⟨p, g, c, ws, i, a1, a2, a3, a4, a5, a6, a7, a8, a9, a10⟩ := h
  obtain ⟨e1, e2⟩ := restFrom_next a10.symm
  have h10 : 10 < cs.length := (List.getElem?_eq_some_iff.1 a2).1
  rw [nsb_cons a10.symm] at a2
  refine (biNext_any I 9 p g c x ws w ((hb.cell 9).trans a1) ((hb.cell 10).trans a2) (hb.free 10) e2 a6 a7 hT a8 a9).mono ?_
  rintro e w' ⟨rfl, n, rfl⟩
  have hk : Kept (fun k => k = I) w ((w.drewN n).setCell ⟨I, 10, none⟩ (.int .i64 (nsb ws (x + 1)))) := Mild.one ((Kept.refl _ _).drewN n) I 10 _
  refine ⟨rfl, _, (hb.drewN n).set 10 _, by simp, by rw [List.take_set_of_le (by omega)], ⟨p, g, c, ws, x + 1, ?_, ?_, by omega, a4, a5, a6, a7, hk.cell2 (by show ¬ p = I; omega) a8, a9.kept hk (by intro b hb; simp at hb; subst hb; show ¬ b = I; omega), e1⟩, hk⟩
  · rw [List.getElem?_set_ne (by omega)]; exact a1
  · rw [List.getElem?_set_self h10]
end Go.Proofs

namespace Go.Proofs
open Go.RowKit Go.Roar

theorem raSize_any (p : Nat) (G : Option Addr) (n c : Nat) (w : World) (h0 : w.cell? ⟨p, 0, none⟩ = some (.slice G n c)) :
    Calls Tryz.prog 71 #[.pointer (some ⟨p, 0, none⟩)] w fun e w' => e = .returned (.int .i64 (n : Int)) ∧ w = w' := by
  go_enter Tryz.func71, Tryz.ntmps71
  go_wp2
  go_ret
  exact ⟨rfl, rfl⟩
theorem raKey_any (p g n c i k : Nat) (w : World) (h0 : w.cell? ⟨p, 0, none⟩ = some (.slice (some ⟨g, 0, none⟩) n c)) (hi : i < n) (hk : w.cell? ⟨g, i, none⟩ = some (.int .u16 (k : Int))) :
    Calls Tryz.prog 72 #[.pointer (some ⟨p, 0, none⟩), .int .i64 (i : Int)] w fun e w' => e = .returned (.int .u16 (k : Int)) ∧ w = w' := by
  have i1 : (i : Int) < (n : Int) := by omega
  go_enter Tryz.func72, Tryz.ntmps72
  go_wp2
  go_ret
  exact ⟨rfl, rfl⟩
theorem raCont_any (p g n c i : Nat) (v : Value) (w : World) (h0 : w.cell? ⟨p, 1, none⟩ = some (.slice (some ⟨g, 0, none⟩) n c)) (hi : i < n) (hk : w.cell? ⟨g, i, none⟩ = some v) :
    Calls Tryz.prog 45 #[.pointer (some ⟨p, 0, none⟩), .int .i64 (i : Int)] w fun e w' => e = .returned v ∧ w = w' := by
  have i1 : (i : Int) < (n : Int) := by omega
  go_enter Tryz.func45, Tryz.ntmps45
  go_wp2
  go_ret
  exact ⟨rfl, rfl⟩
end Go.Proofs
