/-
  A row of bytes that is filled from its beginning; encoding/binary.LittleEndian's PutUint16, PutUint32.
  The format's bytes, and that they hold what the reader asks for.
  Plain laws: the bytes that a set is written as, by its containers.
  Plain laws for the walks of spec.Bytes and of writeTo: the flags, the parts so far, how long the bodies are.
  Plain laws: a set's bytes piece by piece, as they are written.
-/
import Derived.Test.YtanmgknadeoffaaGreatDoorJHeap
import Derived.Test.YtanmgknadeoffaaGreatDoorJQpl
import Derived.Test.YtanmgknadeoffaaGreatDoorKCr
import Derived.Test.YtanmgknadeoffaaGreatDoorJKo
import Derived.Laws.BitsAllLaws
namespace Go.Roar
open Go.RowKit Go.Proofs
/-- Bytes, zeros behind them, N in all. -/
def fil (done : List Nat) (N : Nat) : List Nat := done ++ List.replicate (N - done.length) 0
theorem fil_nil (N : Nat) : fil [] N = List.replicate N 0 := by simp [fil]
theorem fil_length {done : List Nat} {N : Nat} (h : done.length ≤ N) : (fil done N).length = N := by unfold fil; rw [List.length_append, List.length_replicate]; omega
theorem fil_all {done : List Nat} {N : Nat} (h : done.length = N) : fil done N = done := by unfold fil; rw [h, Nat.sub_self]; simp
theorem fil_set {done : List Nat} {N b : Nat} (h : done.length < N) : (fil done N).set done.length b = fil (done ++ [b]) N := by
  unfold fil
  obtain ⟨k, hk⟩ : ∃ k, N - done.length = k + 1 := ⟨N - done.length - 1, by omega⟩
  rw [List.set_append_right _ _ (Nat.le_refl _), Nat.sub_self, hk, List.replicate_succ, List.set_cons_zero, show N - (done ++ [b]).length = k by rw [List.length_append, List.length_singleton]; omega]
  simp
theorem fil_set2 {done : List Nat} {N a b : Nat} (h : done.length + 1 < N) : ((fil done N).set done.length a).set (done.length + 1) b = fil (done ++ [a, b]) N := by
  rw [fil_set (by omega)]
  have e : done.length + 1 = (done ++ [a]).length := by simp
  rw [e, fil_set (by rw [← e]; exact h), List.append_assoc]; rfl
theorem fil_at {done : List Nat} {N i : Nat} (h : done.length ≤ N) (hi : i < N) : ∃ x, (u8s (fil done N))[i]? = some x := ⟨_, List.getElem?_eq_getElem (by rw [u8s_length, fil_length h]; exact hi)⟩
end Go.Roar
namespace Go.Proofs
open Go.RowKit Go.Roar

set_option maxRecDepth 100000 in
set_option maxHeartbeats 1000000 in
theorem put16_blk (g o n c x : Nat) (t : TypeId) (cs : List Value) (w : World) (h : Blk w g t cs) (hn : 2 ≤ n) (ho : o + 2 ≤ cs.length) (hx : x < 65536) :
    Calls Tryz.prog 69 #[.agg #[], .slice (some ⟨g, o, none⟩) n c, .int .u16 (x : Int)] w fun e w' => e = .returned (.tuple #[]) ∧ Blk w' g t ((cs.set o (.int .u8 ((x % 256 : Nat) : Int))).set (o + 1) (.int .u8 ((x / 256 : Nat) : Int))) ∧ Kept (fun b => b = g) w w' := by
  obtain ⟨v0, e0⟩ : ∃ v, cs[o]? = some v := ⟨_, List.getElem?_eq_getElem (by omega)⟩
  obtain ⟨v1, e1⟩ : ∃ v, cs[o + 1]? = some v := ⟨_, List.getElem?_eq_getElem (by omega)⟩
  have i0 : (0 : Int) < (n : Int) := by omega
  have j0 : 0 < n := by omega
  have i1 : (1 : Int) < (n : Int) := by omega
  have j1 : 1 < n := by omega
  have k0 : Kept (fun b => b = g) w (w.alloc (.cells #[] 127)) := (Kept.refl _ _).alloc _
  have hb := h.alloc (.cells #[] 127)
  have c0 : (w.alloc (.cells #[] 127)).cell? ⟨g, o, none⟩ = some v0 := (hb.cell o).trans e0
  have c1 : (w.alloc (.cells #[] 127)).cell? ⟨g, o + 1, none⟩ = some v1 := (hb.cell (o + 1)).trans e1
  have f0 := hb.free o
  have f1 := hb.free (o + 1)
  have Hb := Lib.hid hb
  have K0 := Lib.hid k0
  clear h hb k0
  go_enter Tryz.func69, Tryz.ntmps69
  go_wp2
  go_end0
  refine ⟨rfl, ?_, ?_⟩
  · rw [show ((x : Int) % 256) = ((x % 256 : Nat) : Int) by omega, show ((x : Int) / 256) = ((x / 256 : Nat) : Int) by omega]
    exact (Hb.out.set _ _).set _ _
  · exact (K0.out.setCell (p := ⟨g, o, none⟩) (fun _ => rfl) _).setCell (p := ⟨g, o + 1, none⟩) (fun _ => rfl) _

set_option maxRecDepth 100000 in
set_option maxHeartbeats 1000000 in
theorem put32_blk (g o n c x : Nat) (t : TypeId) (cs : List Value) (w : World) (h : Blk w g t cs) (hn : 4 ≤ n) (ho : o + 4 ≤ cs.length) (hx : x < 4294967296) :
    Calls Tryz.prog 70 #[.agg #[], .slice (some ⟨g, o, none⟩) n c, .int .u32 (x : Int)] w fun e w' => e = .returned (.tuple #[]) ∧ Blk w' g t ((((cs.set o (.int .u8 ((x % 256 : Nat) : Int))).set (o + 1) (.int .u8 ((x / 256 % 256 : Nat) : Int))).set (o + 2) (.int .u8 ((x / 65536 % 256 : Nat) : Int))).set (o + 3) (.int .u8 ((x / 16777216 : Nat) : Int))) ∧ Kept (fun b => b = g) w w' := by
  obtain ⟨v0, e0⟩ : ∃ v, cs[o]? = some v := ⟨_, List.getElem?_eq_getElem (by omega)⟩
  obtain ⟨v1, e1⟩ : ∃ v, cs[o + 1]? = some v := ⟨_, List.getElem?_eq_getElem (by omega)⟩
  obtain ⟨v2, e2⟩ : ∃ v, cs[o + 2]? = some v := ⟨_, List.getElem?_eq_getElem (by omega)⟩
  obtain ⟨v3, e3⟩ : ∃ v, cs[o + 3]? = some v := ⟨_, List.getElem?_eq_getElem (by omega)⟩
  have i0 : (0 : Int) < (n : Int) := by omega
  have j0 : 0 < n := by omega
  have i1 : (1 : Int) < (n : Int) := by omega
  have j1 : 1 < n := by omega
  have i2 : (2 : Int) < (n : Int) := by omega
  have j2 : 2 < n := by omega
  have i3 : (3 : Int) < (n : Int) := by omega
  have j3 : 3 < n := by omega
  have k0 : Kept (fun b => b = g) w (w.alloc (.cells #[] 127)) := (Kept.refl _ _).alloc _
  have hb := h.alloc (.cells #[] 127)
  have c0 : (w.alloc (.cells #[] 127)).cell? ⟨g, o, none⟩ = some v0 := (hb.cell o).trans e0
  have c1 : (w.alloc (.cells #[] 127)).cell? ⟨g, o + 1, none⟩ = some v1 := (hb.cell (o + 1)).trans e1
  have c2 : (w.alloc (.cells #[] 127)).cell? ⟨g, o + 2, none⟩ = some v2 := (hb.cell (o + 2)).trans e2
  have c3 : (w.alloc (.cells #[] 127)).cell? ⟨g, o + 3, none⟩ = some v3 := (hb.cell (o + 3)).trans e3
  have f0 := hb.free o
  have f1 := hb.free (o + 1)
  have f2 := hb.free (o + 2)
  have f3 := hb.free (o + 3)
  have Hb := Lib.hid hb
  have K0 := Lib.hid k0
  clear h hb k0
  go_enter Tryz.func70, Tryz.ntmps70
  go_wp2
  go_end0
  refine ⟨rfl, ?_, ?_⟩
  · rw [show ((x : Int) % 256) = ((x % 256 : Nat) : Int) by omega, show ((x : Int) / 256 % 256) = ((x / 256 % 256 : Nat) : Int) by omega, show ((x : Int) / 65536 % 256) = ((x / 65536 % 256 : Nat) : Int) by omega, show ((x : Int) / 16777216) = ((x / 16777216 : Nat) : Int) by omega]
    exact (((Hb.out.set _ _).set _ _).set _ _).set _ _
  · exact (((K0.out.setCell (p := ⟨g, o, none⟩) (fun _ => rfl) _).setCell (p := ⟨g, o + 1, none⟩) (fun _ => rfl) _).setCell (p := ⟨g, o + 2, none⟩) (fun _ => rfl) _).setCell (p := ⟨g, o + 3, none⟩) (fun _ => rfl) _

/-- Two bytes more in the row. -/
theorem put16_any (g o n c N x : Nat) (done : List Nat) (w : World) (h : Blk w g 5 (u8s (fil done N))) (ho : done.length = o) (hn : 2 ≤ n) (hN : o + 2 ≤ N) (hx : x < 65536) :
    Calls Tryz.prog 69 #[.agg #[], .slice (some ⟨g, o, none⟩) n c, .int .u16 (x : Int)] w fun e w' => e = .returned (.tuple #[]) ∧ Blk w' g 5 (u8s (fil (done ++ enc16 x) N)) ∧ Kept (fun b => b = g) w w' := by
  subst ho
  refine (put16_blk g done.length n c x _ _ w h hn (by rw [u8s_length, fil_length (by omega)]; exact hN) hx).mono ?_
  rintro e w' ⟨rfl, h1, h2⟩
  rw [u8s_set, u8s_set, fil_set2 (by omega)] at h1
  exact ⟨rfl, h1, h2⟩
theorem put32_any (g o n c N x : Nat) (done : List Nat) (w : World) (h : Blk w g 5 (u8s (fil done N))) (ho : done.length = o) (hn : 4 ≤ n) (hN : o + 4 ≤ N) (hx : x < 4294967296) :
    Calls Tryz.prog 70 #[.agg #[], .slice (some ⟨g, o, none⟩) n c, .int .u32 (x : Int)] w fun e w' => e = .returned (.tuple #[]) ∧ Blk w' g 5 (u8s (fil (done ++ enc32 x) N)) ∧ Kept (fun b => b = g) w w' := by
  subst ho
  refine (put32_blk g done.length n c x _ _ w h hn (by rw [u8s_length, fil_length (by omega)]; exact hN) hx).mono ?_
  rintro e w' ⟨rfl, h1, h2⟩
  rw [u8s_set, u8s_set, u8s_set, u8s_set, fil_set2 (by omega)] at h1
  have e2 : done.length + 2 = (done ++ [x % 256, x / 256 % 256]).length := by simp
  rw [show done.length + 3 = done.length + 2 + 1 from rfl, e2, fil_set2 (by rw [← e2]; omega), List.append_assoc] at h1
  exact ⟨rfl, h1, h2⟩
end Go.Proofs

namespace Go.Roar
open Go.RowKit

/-- Which parts are told by runs: bytes of bits. -/
def flagsOf (kd : List Nat) : List Nat := ((List.range kd.length).filter (fun i => kd.getD i 0 == 2)).foldl setBit (List.replicate ((kd.length + 7) / 8) 0)
def anyRuns (kd : List Nat) : Bool := kd.any (· == 2)
def headOf (kd : List Nat) : List Nat := if anyRuns kd then enc32 (12347 + (kd.length - 1) * 65536) ++ flagsOf kd else enc32 12346 ++ enc32 kd.length
def descNums (qs : List (Nat × List (Nat × Nat))) : List Nat := qs.flatMap fun q => [q.1, rgCard q.2 - 1]
def bodiesOf (qs : List (Nat × List (Nat × Nat))) (kd : List Nat) : List (List Nat) := (qs.zip kd).map fun x => bodyOf x.1.2 x.2
/-- The kinds fit the parts: each is of runs, or the plain one. -/
def KindsOK (qs : List (Nat × List (Nat × Nat))) (kd : List Nat) : Prop := kd.length = qs.length ∧ ∀ (i : Nat) (q : Nat × List (Nat × Nat)) (k : Nat), qs[i]? = some q → kd[i]? = some k → k = 2 ∨ (k = if rgCard q.2 ≤ 4096 then 0 else 1)
/-- How many bytes the places of the parts take. -/
def offLen (kd : List Nat) : Nat := if anyRuns kd = false ∨ 4 ≤ kd.length then 4 * kd.length else 0

theorem flagsOf_length (kd : List Nat) : (flagsOf kd).length = (kd.length + 7) / 8 := by unfold flagsOf; rw [setBits_length, List.length_replicate]
theorem flagsOf_byte (kd : List Nat) : ∀ b ∈ flagsOf kd, b < 256 := setBits_byte _ (by intro b hb; have := (List.mem_replicate.1 hb).2; omega)
theorem flagsOf_bit {kd : List Nat} {i k : Nat} (h : kd[i]? = some k) : ((flagsOf kd).getD (i / 8) 0).testBit (i % 8) = decide (k = 2) := by
  obtain ⟨hi, hk⟩ := List.getElem?_eq_some_iff.1 h
  unfold flagsOf
  rw [setBits_bit _ _ _ (fun x hx => by simp at hx; rw [List.length_replicate]; omega)]
  have e1 : ((List.replicate ((kd.length + 7) / 8) 0).getD (i / 8) 0) = 0 := by
    rw [List.getD_eq_getElem?_getD, List.getElem?_replicate]; split <;> rfl
  rw [e1, Nat.zero_testBit, Bool.false_or]
  rw [Bool.eq_iff_iff]
  simp only [decide_eq_true_eq, List.mem_filter, List.mem_range, beq_iff_eq]
  rw [List.getD_eq_getElem?_getD, h]
  simp [hi]
theorem anyRuns_of {kd : List Nat} {i : Nat} (h : kd[i]? = some 2) : anyRuns kd = true := by
  unfold anyRuns
  rw [List.any_eq_true]
  exact ⟨2, List.mem_of_getElem? h, rfl⟩
theorem descNums_length (qs : List (Nat × List (Nat × Nat))) : (descNums qs).length = 2 * qs.length := flatMap_length _ 2 (fun _ => rfl) qs
theorem descNums_at {qs : List (Nat × List (Nat × Nat))} {i : Nat} {q : Nat × List (Nat × Nat)} (h : qs[i]? = some q) : (descNums qs)[2 * i]? = some q.1 ∧ (descNums qs)[2 * i + 1]? = some (rgCard q.2 - 1) := by
  have e : (descNums qs).drop (2 * i) = (qs.drop i).flatMap fun q => [q.1, rgCard q.2 - 1] := flatMap_drop _ 2 (fun _ => rfl) qs i
  obtain ⟨hi, rfl⟩ := List.getElem?_eq_some_iff.1 h
  rw [List.drop_eq_getElem_cons hi, List.flatMap_cons] at e
  constructor
  · have := congrArg (fun l => l[0]?) e
    simpa [List.getElem?_drop] using this
  · have := congrArg (fun l => l[1]?) e
    simpa [List.getElem?_drop] using this
theorem headOf_length (kd : List Nat) : (headOf kd).length = if anyRuns kd then 4 + (kd.length + 7) / 8 else 8 := by
  unfold headOf
  split
  · rw [List.length_append, flagsOf_length]; rfl
  · rfl

/-- Where part i's bytes begin, behind 'start'. -/
def posAt (start : Nat) (bodies : List (List Nat)) (i : Nat) : Nat := start + (bodies.take i).flatten.length
theorem posAt_zero (start : Nat) (bodies : List (List Nat)) : posAt start bodies 0 = start := by simp [posAt]
theorem posAt_succ {start : Nat} {bodies : List (List Nat)} {i : Nat} {b : List Nat} (h : bodies[i]? = some b) : posAt start bodies (i + 1) = posAt start bodies i + b.length := by
  obtain ⟨hi, rfl⟩ := List.getElem?_eq_some_iff.1 h
  unfold posAt
  rw [List.take_succ_eq_append_getElem hi, List.flatten_append, List.length_append]
  simp; omega
theorem posAt_all (start : Nat) (bodies : List (List Nat)) : posAt start bodies bodies.length = start + bodies.flatten.length := by unfold posAt; rw [List.take_length]
theorem body_there {A : List Nat} {bodies : List (List Nat)} {i : Nat} {b : List Nat} (h : bodies[i]? = some b) : ((A ++ bodies.flatten).drop (posAt A.length bodies i)).take b.length = b ∧ posAt A.length bodies i + b.length ≤ (A ++ bodies.flatten).length := by
  obtain ⟨hi, rfl⟩ := List.getElem?_eq_some_iff.1 h
  have e : bodies.flatten = (bodies.take i).flatten ++ (bodies[i] ++ (bodies.drop (i + 1)).flatten) := by
    conv => lhs; rw [← List.take_append_drop i bodies, List.flatten_append, List.drop_eq_getElem_cons hi, List.flatten_cons]
  unfold posAt
  constructor
  · rw [e, ← List.append_assoc, List.drop_left' (by simp), List.take_left' rfl]
  · rw [List.length_append, e, List.length_append, List.length_append]; omega
theorem bodiesOf_at {qs : List (Nat × List (Nat × Nat))} {kd : List Nat} {i k : Nat} {q : Nat × List (Nat × Nat)} (hq : qs[i]? = some q) (hk : kd[i]? = some k) : (bodiesOf qs kd)[i]? = some (bodyOf q.2 k) := by
  unfold bodiesOf
  have e : (qs.zip kd)[i]? = some (q, k) := List.getElem?_zip_eq_some.2 ⟨hq, hk⟩
  rw [List.getElem?_map, e]; rfl
theorem bodiesOf_length {qs : List (Nat × List (Nat × Nat))} {kd : List Nat} (h : kd.length = qs.length) : (bodiesOf qs kd).length = qs.length := by unfold bodiesOf; simp [h]
theorem rgCard_le {n : Nat} : ∀ (rs : List (Nat × Nat)) (lo : Nat), RgOK n rs → (∀ r ∈ rs, lo ≤ r.1) → lo ≤ n → rgCard rs + lo ≤ n
  | [], lo, _, _, hl => by simpa [rgCard] using hl
  | r :: l, lo, h, hlo, hl => by
    have h1 := h.1 r (by simp)
    have h2 := hlo r (by simp)
    have := rgCard_le l (r.2 + 1) h.tail (fun q hq => by have := (List.pairwise_cons.1 h.2).1 q hq; omega) (by omega)
    rw [rgCard_cons]; omega

/-- All the bytes: the places' bytes may be any. -/
def wholeOf (qs : List (Nat × List (Nat × Nat))) (kd offs : List Nat) : List Nat := headOf kd ++ (descNums qs).flatMap enc16 ++ offs ++ (bodiesOf qs kd).flatten

/-- The parts of the format, as the reader asks for them. -/
theorem whole_items {qs : List (Nat × List (Nat × Nat))} {kd offs : List Nat} (hq : ∀ q ∈ qs, q.1 < 65536 ∧ q.2 ≠ [] ∧ RgOK 65536 q.2) (hk : KindsOK qs kd) (i key card1 kind : Nat) (body : List Nat)
    (h1 : (qs.map (·.1))[i]? = some key) (h2 : (qs.map fun q => rgCard q.2 - 1)[i]? = some card1) (h3 : kd[i]? = some kind) (h4 : (bodiesOf qs kd)[i]? = some body) :
    RItem (wholeOf qs kd offs) ((descNums qs).flatMap enc16) (if anyRuns kd then some (flagsOf kd) else none) (posAt (headOf kd ++ (descNums qs).flatMap enc16 ++ offs).length (bodiesOf qs kd)) i key card1 kind body := by
  have hi : i < qs.length := by have := (List.getElem?_eq_some_iff.1 h1).1; simpa using this
  obtain ⟨q, hx⟩ : ∃ q, qs[i]? = some q := ⟨_, List.getElem?_eq_getElem hi⟩
  obtain rfl : q.1 = key := by rw [List.getElem?_map, hx] at h1; simpa using h1
  obtain rfl : rgCard q.2 - 1 = card1 := by rw [List.getElem?_map, hx] at h2; simpa using h2
  have e4 := bodiesOf_at hx h3
  rw [h4] at e4
  obtain rfl : body = bodyOf q.2 kind := by simpa using e4
  obtain ⟨q1, q2, q3⟩ := hq q (List.mem_of_getElem? hx)
  have hc := rgCard_le q.2 0 q3 (fun _ _ => Nat.zero_le _) (Nat.zero_le _)
  have hl := rg_length q.2 0 q3 (fun _ _ => Nat.zero_le _) (by omega)
  have hc0 : 1 ≤ rgCard q.2 := by
    rcases hq2 : q.2 with _ | ⟨r, l⟩
    · exact absurd hq2 q2
    · rw [rgCard_cons]; omega
  have hb := body_there (A := headOf kd ++ (descNums qs).flatMap enc16 ++ offs) h4
  exact {
    key := by rw [dec16_enc]; exact (descNums_at hx).1
    card := by rw [dec16_enc]; exact (descNums_at hx).2
    bodyEq := hb.1
    bound := by omega
    next := posAt_succ h4
    fits := hb.2
    flag := by
      by_cases ha : anyRuns kd = true
      · rw [if_pos ha]; exact flagsOf_bit h3
      · rw [if_neg ha]
        show false = decide (kind = 2)
        by_cases h : kind = 2
        · subst h; exact absurd (anyRuns_of h3) ha
        · simp [h]
    kinds := by
      have hbl := bodyOf_length q.2 kind
      rcases hk.2 i q kind hx h3 with rfl | h
      · refine .inl ⟨rfl, q.2.length, q.2.length % 256, q.2.length / 256, by omega, hbl, rfl, rfl, leN_enc16 _⟩
      · by_cases h5 : rgCard q.2 ≤ 4096
        · rw [if_pos h5] at h; subst h
          rw [if_pos rfl] at hbl
          exact .inr (.inr ⟨rfl, by omega, by rw [hbl]; omega⟩)
        · rw [if_neg h5] at h; subst h
          rw [if_neg (by decide), if_pos rfl] at hbl
          exact .inr (.inl ⟨rfl, by omega, hbl⟩) }
end Go.Roar

namespace Go.Roar
open Go.RowKit
/-- A word's bytes, the lowest first. -/
def enc64 (x : Nat) : List Nat := [x % 256, x / 256 % 256, x / 65536 % 256, x / 16777216 % 256, x / 4294967296 % 256, x / 1099511627776 % 256, x / 281474976710656 % 256, x / 72057594037927936]
theorem leN_enc64 (x : Nat) : leN (enc64 x) = x := by simp [leN, enc64]; omega
@[simp] theorem enc64_length (x : Nat) : (enc64 x).length = 8 := rfl
theorem enc64_byte {x : Nat} (h : x < 18446744073709551616) : ∀ b ∈ enc64 x, b < 256 := by
  intro b hb; simp [enc64] at hb; omega
theorem dec64_enc (l : List Nat) : decK 8 (l.flatMap enc64) = l := decK_enc (by decide) enc64 enc64_length leN_enc64 l
theorem words_byte {ws : List Nat} (hb : ∀ x ∈ ws, x < 18446744073709551616) : ∀ b ∈ ws.flatMap enc64, b < 256 := by
  intro b hx
  obtain ⟨x, h1, h2⟩ := List.mem_flatMap.1 hx
  exact enc64_byte (hb x h1) b h2
/-- Bytes are told by their bits. -/
theorem bytes_ext {a b : List Nat} (hl : a.length = b.length) (ha : ∀ x ∈ a, x < 256) (hb : ∀ x ∈ b, x < 256) (h : ∀ y, y / 8 < a.length → (a.getD (y / 8) 0).testBit (y % 8) = (b.getD (y / 8) 0).testBit (y % 8)) : a = b := by
  refine List.ext_getElem hl (fun i h1 h2 => Nat.eq_of_testBit_eq (fun j => ?_))
  have a1 := ha _ (List.getElem_mem h1)
  have b1 := hb _ (List.getElem_mem h2)
  rcases Nat.lt_or_ge j 8 with hj | hj
  · have hh := h (8 * i + j) (by omega)
    rw [show (8 * i + j) / 8 = i by omega, show (8 * i + j) % 8 = j by omega, List.getD_eq_getElem?_getD, List.getD_eq_getElem?_getD, List.getElem?_eq_getElem h1, List.getElem?_eq_getElem h2] at hh
    exact hh
  · have hp : 256 ≤ 2 ^ j := Nat.pow_le_pow_right (n := 2) (i := 8) (by omega) hj
    rw [Nat.testBit_lt_two_pow (by omega), Nat.testBit_lt_two_pow (by omega)]
/-- Words' bytes are the bits of their numbers. -/
theorem words_bits {ws l : List Nat} (hl : ws.length = 1024) (hb : ∀ x ∈ ws, x < 18446744073709551616) (hx : restFrom (bitOf ws) 0 = l) : ws.flatMap enc64 = bitBytes l := by
  have hlen : (ws.flatMap enc64).length = 8192 := by rw [flatMap_length enc64 8 enc64_length, hl]
  refine bytes_ext (by rw [hlen, bitBytes_length]) (words_byte hb) (bitBytes_byte l) (fun y hy => ?_)
  rw [hlen] at hy
  subst hx
  rw [bitBytes_bit (fun x hx => by
    have := (List.mem_filter.1 hx).1
    rw [List.mem_range'_1] at this; omega), ← dec64_bit _ (words_byte hb) (by rw [hlen]), dec64_enc]
  show bitOf ws y = _
  rw [Bool.eq_iff_iff, decide_eq_true_eq]
  unfold restFrom
  rw [List.mem_filter, List.mem_range'_1]
  exact ⟨fun h => ⟨⟨Nat.zero_le _, by omega⟩, h⟩, fun h => h.2⟩
/-- Where the parts' bytes begin. -/
def offsOf (qs : List (Nat × List (Nat × Nat))) (kd : List Nat) : List Nat :=
  if anyRuns kd = false ∨ 4 ≤ kd.length then (List.range kd.length).flatMap fun i => enc32 (posAt ((headOf kd).length + 4 * kd.length + 4 * kd.length) (bodiesOf qs kd) i) else []
theorem offsOf_length (qs : List (Nat × List (Nat × Nat))) (kd : List Nat) : (offsOf qs kd).length = offLen kd := by
  unfold offsOf offLen
  split
  · rw [flatMap_length _ 4 (fun _ => rfl), List.length_range]
  · rfl
theorem posAt_le {start : Nat} {bodies : List (List Nat)} (i : Nat) : posAt start bodies i ≤ start + bodies.flatten.length := by
  unfold posAt
  have : bodies.flatten.length = (bodies.take i).flatten.length + (bodies.drop i).flatten.length := by rw [← List.length_append, ← List.flatten_append, List.take_append_drop]
  omega
theorem offsOf_byte {qs : List (Nat × List (Nat × Nat))} {kd : List Nat} (h : (headOf kd).length + 4 * kd.length + 4 * kd.length + (bodiesOf qs kd).flatten.length < 4294967296) : ∀ b ∈ offsOf qs kd, b < 256 := by
  intro b hb
  unfold offsOf at hb
  split at hb
  · obtain ⟨i, _, h2⟩ := List.mem_flatMap.1 hb
    have := posAt_le (start := (headOf kd).length + 4 * kd.length + 4 * kd.length) (bodies := bodiesOf qs kd) i
    exact enc32_byte (by omega) b h2
  · cases hb
/-- The parts of a set that lies in memory, as ranges. -/
def qsOf (q : List Kon) : List (Nat × List (Nat × Nat)) := q.map fun x => (x.key, runsOf x.l)
def kdOf (q : List Kon) : List Nat := q.map (·.k)
def konBody (x : Kon) : List Nat := bodyOf (runsOf x.l) x.k
theorem qsOf_length (q : List Kon) : (qsOf q).length = q.length := by simp [qsOf]
theorem kdOf_length (q : List Kon) : (kdOf q).length = q.length := by simp [kdOf]
theorem bodiesOf_kon (q : List Kon) : bodiesOf (qsOf q) (kdOf q) = q.map konBody := by
  unfold bodiesOf qsOf kdOf
  rw [List.zip_map', List.map_map]
  rfl
theorem qs_psOf {q : List Kon} (h : OKP (psOf q)) : (qsOf q).map (fun x => (x.1, rgNums x.2)) = psOf q := by
  unfold qsOf psOf
  rw [List.map_map]
  refine List.map_congr_left (fun x hx => ?_)
  obtain ⟨_, h2, h3, _⟩ := h.2 (x.key, x.l) (List.mem_map.2 ⟨x, hx, rfl⟩)
  show (x.key, rgNums (runsOf x.l)) = (x.key, x.l)
  rw [(runsOf_ok (n := 65536) x.l h2 h3).2]
theorem qs_parts {q : List Kon} (h : OKP (psOf q)) : PartsOK (qsOf q) := by
  refine ⟨?_, fun y hy => ?_⟩
  · have := h.1
    unfold psOf at this
    rw [List.pairwise_map] at this
    unfold qsOf
    rw [List.pairwise_map]
    exact this
  · obtain ⟨x, hx, rfl⟩ := List.mem_map.1 hy
    obtain ⟨h1, h2, h3, h4⟩ := h.2 (x.key, x.l) (List.mem_map.2 ⟨x, hx, rfl⟩)
    have hr := runsOf_ok (n := 65536) x.l h2 h3
    refine ⟨h1, fun e => ?_, hr.1⟩
    have e2 : runsOf x.l = [] := e
    rw [e2] at hr
    exact h4 hr.2.symm
theorem kon_card {q : List Kon} (h : OKP (psOf q)) {x : Kon} (hx : x ∈ q) : rgCard (runsOf x.l) = x.l.length := by
  obtain ⟨_, h2, h3, _⟩ := h.2 (x.key, x.l) (List.mem_map.2 ⟨x, hx, rfl⟩)
  rw [← rgNums_length, (runsOf_ok (n := 65536) x.l h2 h3).2]
theorem qs_card {q : List Kon} (h : OKP (psOf q)) : ((qsOf q).map fun x => rgCard x.2).sum = (allN (psOf q)).length := by
  have e : (allN (psOf q)).length = (q.map fun x => x.l.length).sum := by
    unfold allN psOf
    rw [List.flatMap_map, List.length_flatMap]
    simp
  rw [e]
  unfold qsOf
  rw [List.map_map]
  congr 1
  exact List.map_congr_left (fun x hx => kon_card h hx)
end Go.Roar

namespace Go.Roar
theorem bodies_le : ∀ (qs : List (Nat × List (Nat × Nat))) (kd : List Nat), (∀ q ∈ qs, q.2 ≠ []) → KindsOK qs kd → (bodiesOf qs kd).flatten.length ≤ 6 * (qs.map fun q => rgCard q.2).sum
  | [], _, _, _ => by simp [bodiesOf]
  | q :: l, [], h, hk => by have := hk.1; simp at this
  | q :: l, k :: kd, h, hk => by
    have h0 : KindsOK l kd := ⟨by simpa using hk.1, fun i q' k' a b => hk.2 (i + 1) q' k' (by simpa using a) (by simpa using b)⟩
    have := bodies_le l kd (fun x hx => h x (by simp [hx])) h0
    have e : bodiesOf (q :: l) (k :: kd) = bodyOf q.2 k :: bodiesOf l kd := rfl
    rw [e, List.flatten_cons, List.length_append, bodyOf_length]
    have hc := card_pos (h q (by simp))
    have hkk := hk.2 0 q k rfl rfl
    simp only [List.map_cons, List.sum_cons]
    rcases hkk with rfl | hkk
    · rw [if_neg (by decide), if_neg (by decide)]; omega
    · by_cases h5 : rgCard q.2 ≤ 4096
      · rw [if_pos h5] at hkk; subst hkk; rw [if_pos rfl]; omega
      · rw [if_neg h5] at hkk; subst hkk; rw [if_neg (by decide), if_pos rfl]; omega
/-- The bits of the flags, up to the kind k. -/
def flagsTo (kd : List Nat) (n k : Nat) : List Nat := ((List.range k).filter (fun i => kd.getD i 0 == 2)).foldl setBit (List.replicate ((n + 7) / 8) 0)
theorem flagsTo_zero (kd : List Nat) (n : Nat) : flagsTo kd n 0 = List.replicate ((n + 7) / 8) 0 := rfl
theorem flagsTo_all (kd : List Nat) : flagsTo kd kd.length kd.length = flagsOf kd := rfl
theorem flagsTo_two {kd : List Nat} {n k : Nat} (h : kd[k]? = some 2) : flagsTo kd n (k + 1) = setBit (flagsTo kd n k) k := by
  unfold flagsTo
  rw [List.range_succ, List.filter_append, List.foldl_append]
  have e : [k].filter (fun i => kd.getD i 0 == 2) = [k] := by rw [List.filter_cons_of_pos (by rw [List.getD_eq_getElem?_getD, h]; rfl)]; rfl
  rw [e]; rfl
theorem flagsTo_else {kd : List Nat} {n k x : Nat} (h : kd[k]? = some x) (hx : x ≠ 2) : flagsTo kd n (k + 1) = flagsTo kd n k := by
  unfold flagsTo
  rw [List.range_succ, List.filter_append, List.foldl_append]
  have e : [k].filter (fun i => kd.getD i 0 == 2) = [] := by rw [List.filter_cons_of_neg (by rw [List.getD_eq_getElem?_getD, h]; simpa using hx)]; rfl
  rw [e]; rfl
theorem flagsTo_length (kd : List Nat) (n k : Nat) : (flagsTo kd n k).length = (n + 7) / 8 := by unfold flagsTo; rw [setBits_length, List.length_replicate]
theorem flagsTo_byte (kd : List Nat) (n k : Nat) : ∀ b ∈ flagsTo kd n k, b < 256 := setBits_byte _ (by intro b hb; have := (List.mem_replicate.1 hb).2; omega)
theorem anyTo_two {kd : List Nat} {k : Nat} (h : kd[k]? = some 2) : anyRuns (kd.take (k + 1)) = true := by
  obtain ⟨hk, e⟩ := List.getElem?_eq_some_iff.1 h
  unfold anyRuns
  rw [List.take_succ_eq_append_getElem hk, List.any_append]
  simp [e]
theorem anyTo_else {kd : List Nat} {k x : Nat} (h : kd[k]? = some x) (hx : x ≠ 2) : anyRuns (kd.take (k + 1)) = anyRuns (kd.take k) := by
  obtain ⟨hk, e⟩ := List.getElem?_eq_some_iff.1 h
  unfold anyRuns
  rw [List.take_succ_eq_append_getElem hk, List.any_append]
  simp [e, hx]
theorem desc_take {qs : List (Nat × List (Nat × Nat))} {k : Nat} {q : Nat × List (Nat × Nat)} (h : qs[k]? = some q) : (descNums (qs.take (k + 1))).flatMap enc16 = (descNums (qs.take k)).flatMap enc16 ++ enc16 q.1 ++ enc16 (rgCard q.2 - 1) := by
  obtain ⟨hk, rfl⟩ := List.getElem?_eq_some_iff.1 h
  unfold descNums
  rw [List.take_succ_eq_append_getElem hk, List.flatMap_append, List.flatMap_append]
  simp
theorem bodies_take {qs : List (Nat × List (Nat × Nat))} {kd : List Nat} {k x : Nat} {q : Nat × List (Nat × Nat)} (h : qs[k]? = some q) (hx : kd[k]? = some x) : (bodiesOf (qs.take (k + 1)) (kd.take (k + 1))).flatten = (bodiesOf (qs.take k) (kd.take k)).flatten ++ bodyOf q.2 x := by
  obtain ⟨hk, rfl⟩ := List.getElem?_eq_some_iff.1 h
  obtain ⟨hk2, rfl⟩ := List.getElem?_eq_some_iff.1 hx
  unfold bodiesOf
  rw [List.take_succ_eq_append_getElem hk, List.take_succ_eq_append_getElem hk2, List.zip_append (by simp; omega)]
  simp
theorem kinds_take {qs : List (Nat × List (Nat × Nat))} {kd : List Nat} (h : KindsOK qs kd) (k : Nat) : KindsOK (qs.take k) (kd.take k) := by
  refine ⟨by simp [h.1], fun i q x a b => ?_⟩
  rw [List.getElem?_take] at a b
  split at a
  · rename_i hi
    rw [if_pos hi] at b
    exact h.2 i q x a b
  · cases a
theorem sum_take_le : ∀ (qs : List (Nat × List (Nat × Nat))) (k : Nat), ((qs.take k).map fun q => rgCard q.2).sum ≤ (qs.map fun q => rgCard q.2).sum
  | [], k => by simp
  | q :: l, 0 => by simp
  | q :: l, k + 1 => by have := sum_take_le l k; simp only [List.take_succ_cons, List.map_cons, List.sum_cons]; omega
/-- The bodies up to part k are few. -/
theorem bodies_small {qs : List (Nat × List (Nat × Nat))} {kd : List Nat} (h : ∀ q ∈ qs, q.2 ≠ []) (hk : KindsOK qs kd) (k : Nat) : (bodiesOf (qs.take k) (kd.take k)).flatten.length ≤ 6 * (qs.map fun q => rgCard q.2).sum := by
  have h1 := bodies_le (qs.take k) (kd.take k) (fun q hq => h q (List.mem_of_mem_take hq)) (kinds_take hk k)
  have h2 := sum_take_le qs k
  omega
end Go.Roar

namespace Go.Roar
open Go.RowKit
theorem enc32_split (a b : Nat) (ha : a < 65536) : enc32 (a + b * 65536) = enc16 a ++ enc16 b := by
  unfold enc32 enc16
  simp only [List.cons_append, List.nil_append, List.cons.injEq, and_true]
  omega
/-- Keys and cards of the containers up to k. -/
def descTo (q : List Kon) (k : Nat) : List Nat := (q.take k).flatMap fun x => enc16 x.key ++ enc16 (x.l.length - 1)
theorem descTo_zero (q : List Kon) : descTo q 0 = [] := rfl
theorem descTo_succ {q : List Kon} {k : Nat} {x : Kon} (h : q[k]? = some x) : descTo q (k + 1) = descTo q k ++ enc16 x.key ++ enc16 (x.l.length - 1) := by
  obtain ⟨hk, rfl⟩ := List.getElem?_eq_some_iff.1 h
  unfold descTo
  rw [List.take_succ_eq_append_getElem hk, List.flatMap_append]
  simp
theorem descTo_len {q : List Kon} {k : Nat} (h : k ≤ q.length) : (descTo q k).length = 4 * k := by
  unfold descTo
  rw [flatMap_length _ 4 (fun _ => rfl), List.length_take, Nat.min_eq_left h]
theorem descTo_all {q : List Kon} (h : OKP (psOf q)) : descTo q q.length = (descNums (qsOf q)).flatMap enc16 := by
  unfold descTo descNums qsOf
  rw [List.take_length, List.flatMap_map, List.flatMap_assoc, List.flatMap_def, List.flatMap_def]
  congr 1
  refine List.map_congr_left (fun x hx => ?_)
  rw [kon_card h hx]
  simp
/-- Where the containers up to k begin. -/
def offTo (st : Nat) (q : List Kon) (k : Nat) : List Nat := (List.range k).flatMap fun i => enc32 (posAt st (q.map konBody) i)
theorem offTo_zero (st : Nat) (q : List Kon) : offTo st q 0 = [] := rfl
theorem offTo_succ (st : Nat) (q : List Kon) (k : Nat) : offTo st q (k + 1) = offTo st q k ++ enc32 (posAt st (q.map konBody) k) := by
  unfold offTo
  rw [List.range_succ, List.flatMap_append]
  simp
theorem offTo_len (st : Nat) (q : List Kon) (k : Nat) : (offTo st q k).length = 4 * k := by
  unfold offTo
  rw [flatMap_length _ 4 (fun _ => rfl), List.length_range]
theorem posAt_kon {st : Nat} {q : List Kon} {k : Nat} {x : Kon} (h : q[k]? = some x) : posAt st (q.map konBody) (k + 1) = posAt st (q.map konBody) k + (konBody x).length :=
  posAt_succ (by rw [List.getElem?_map, h]; rfl)
/-- The containers' bytes up to k. -/
def bodTo (q : List Kon) (k : Nat) : List Nat := ((q.map konBody).take k).flatten
theorem bodTo_zero (q : List Kon) : bodTo q 0 = [] := rfl
theorem bodTo_succ {q : List Kon} {k : Nat} {x : Kon} (h : q[k]? = some x) : bodTo q (k + 1) = bodTo q k ++ konBody x := by
  obtain ⟨hk, rfl⟩ := List.getElem?_eq_some_iff.1 h
  unfold bodTo
  rw [List.take_succ_eq_append_getElem (by rw [List.length_map]; exact hk), List.flatten_append]
  simp
theorem bodTo_all (q : List Kon) : bodTo q q.length = (bodiesOf (qsOf q) (kdOf q)).flatten := by
  unfold bodTo
  rw [bodiesOf_kon, show q.length = (q.map konBody).length by rw [List.length_map], List.take_length]
theorem bodTo_le (q : List Kon) (k : Nat) : (bodTo q k).length ≤ (bodTo q q.length).length := by
  have e : bodTo q q.length = bodTo q k ++ ((q.map konBody).drop k).flatten := by
    unfold bodTo
    rw [← List.flatten_append, List.take_append_drop, show q.length = (q.map konBody).length by rw [List.length_map], List.take_length]
  rw [e, List.length_append]; omega
theorem posAt_bod (st : Nat) (q : List Kon) (k : Nat) : posAt st (q.map konBody) k = st + (bodTo q k).length := rfl
theorem konBody_length (q : List Kon) (h : OKP (psOf q)) {x : Kon} (hx : x ∈ q) : (konBody x).length = if x.k = 0 then 2 * x.l.length else if x.k = 1 then 8192 else 2 + 4 * (runsOf x.l).length := by
  unfold konBody
  rw [bodyOf_length, kon_card h hx]
theorem offsOf_kon (q : List Kon) : offsOf (qsOf q) (kdOf q) = if anyRuns (kdOf q) = false ∨ 4 ≤ q.length then offTo ((headOf (kdOf q)).length + 4 * q.length + 4 * q.length) q q.length else [] := by
  unfold offsOf offTo
  rw [kdOf_length, bodiesOf_kon]
theorem whole_kon {q : List Kon} (h : OKP (psOf q)) : wholeOf (qsOf q) (kdOf q) (offsOf (qsOf q) (kdOf q)) = headOf (kdOf q) ++ descTo q q.length ++ offsOf (qsOf q) (kdOf q) ++ bodTo q q.length := by
  unfold wholeOf
  rw [descTo_all h, bodTo_all]
/-- The head of a set with runs: the cookie, the flags up to the kind k, zeros behind them. -/
def rowF (kd : List Nat) (n k : Nat) : List Nat := enc16 12347 ++ enc16 (n - 1) ++ flagsTo kd n k ++ List.replicate (8 * n) 0
theorem rowF_zero (kd : List Nat) (n N : Nat) (h : N = 4 + (n + 7) / 8 + 8 * n) : rowF kd n 0 = fil (enc16 12347 ++ enc16 (n - 1)) N := by
  unfold rowF fil
  rw [flagsTo_zero, List.append_assoc, List.append_assoc, List.replicate_append_replicate, ← List.append_assoc]
  congr 2
  simp only [List.length_append, enc16_length]
  omega
theorem rowF_all (kd : List Nat) (n N : Nat) (h : N = 4 + (n + 7) / 8 + 8 * n) (hn : kd.length = n) (h1 : 1 ≤ n) (hr : anyRuns kd = true) : rowF kd n n = fil (headOf kd) N := by
  subst hn
  unfold rowF headOf fil
  rw [if_pos hr, flagsTo_all, enc32_split 12347 _ (by decide)]
  congr 2
  simp only [List.length_append, enc16_length, flagsOf_length]
  omega
theorem rowF_length (kd : List Nat) (n k : Nat) : (rowF kd n k).length = 4 + (n + 7) / 8 + 8 * n := by
  unfold rowF
  simp only [List.length_append, enc16_length, flagsTo_length, List.length_replicate]
theorem rowF_at {kd : List Nat} {n k : Nat} (h : k < n) : (rowF kd n k)[4 + k / 8]? = some ((flagsTo kd n k).getD (k / 8) 0) := by
  have hl := flagsTo_length kd n k
  unfold rowF
  rw [List.getElem?_append_left (by simp only [List.length_append, enc16_length, hl]; omega), List.getElem?_append_right (by simp only [List.length_append, enc16_length]; omega)]
  simp only [List.length_append, enc16_length]
  rw [show 4 + k / 8 - (2 + 2) = k / 8 by omega, List.getD_eq_getElem?_getD, List.getElem?_eq_getElem (by omega)]
  rfl
theorem rowF_set {kd : List Nat} {n k : Nat} (h : k < n) (hk : kd[k]? = some 2) : (rowF kd n k).set (4 + k / 8) ((flagsTo kd n k).getD (k / 8) 0 ||| 2 ^ (k % 8)) = rowF kd n (k + 1) := by
  have hl := flagsTo_length kd n k
  unfold rowF
  rw [List.set_append_left _ _ (by simp only [List.length_append, enc16_length, hl]; omega), List.set_append_right _ _ (by simp only [List.length_append, enc16_length]; omega), flagsTo_two hk]
  simp only [List.length_append, enc16_length]
  rw [show 4 + k / 8 - (2 + 2) = k / 8 by omega]
  rfl
theorem rowF_else {kd : List Nat} {n k x : Nat} (hk : kd[k]? = some x) (hx : x ≠ 2) : rowF kd n (k + 1) = rowF kd n k := by
  unfold rowF
  rw [flagsTo_else hk hx]
theorem head_plain {kd : List Nat} (h : anyRuns kd = false) : headOf kd = enc32 12346 ++ enc32 kd.length := by
  unfold headOf; rw [h]; rfl
end Go.Roar
