/-
  Plain laws on the model's memory, used by every contract of this claim: a block known whole ('Blk'), and what a stretch of a run leaves as it was ('Kept').
  How lists of numbers lie in memory: the cells of a slice of 16-bit numbers.
  A stretch that writes nothing that was there; cells behind it.
  Laws for the walk, in the words of Heap: append onto a slice that owns its block; copy; a slice that is made.
  A slice that is made, as a block known whole; bytes that a slice reads; a list filled from its beginning.
  Parts of memory that lie apart: a small logic for the contracts. An 'HA' says something of the blocks of its list F and of no others; 'Parts w L': all of L hold in w, and no block stands in two places.
  The three kinds of containers as parts of memory, and the set of numbers below 65536 that each one holds.
-/
import Derived.Test.YtjjijipfhnoomaaGreatDoorJQpl
import Derived.WalkKit
import Derived.Lib.Hide
import Derived.Deep.Draws
import Derived.Laws.CopyOwn
import Derived.Test.YtjjijipfhnoomaaGreatDoorProg
import Derived.Deep.QuietTactic
import Derived.BigQuiet
import Derived.LoopTactic
import Derived.Outline
import Derived.StillTailTactics
namespace Go.Roar
open Go.RowKit

/-- Block b holds just the cells cs, none of them frozen. -/
def Blk (w : World) (b : Nat) (t : TypeId) (cs : List Value) : Prop := w.heap[b]? = some (.cells cs.toArray t (0, 0))

/-- From w to w' only blocks of S (and new ones) have been written. -/
structure Kept (S : Nat → Prop) (w w' : World) : Prop where
  os : w'.os = w.os
  tape : w'.tape = w.tape
  output : w'.output = w.output
  size : w.heap.size ≤ w'.heap.size
  block : ∀ k, k < w.heap.size → ¬ S k → w'.heap[k]? = w.heap[k]?

theorem Blk.lt {w : World} {b : Nat} {t : TypeId} {cs : List Value} (h : Blk w b t cs) : b < w.heap.size :=
  (Array.getElem?_eq_some_iff.1 h).1

theorem Blk.cell {w : World} {b : Nat} {t : TypeId} {cs : List Value} (h : Blk w b t cs) (o : Nat) : w.cell? ⟨b, o, none⟩ = cs[o]? := by
  unfold Blk at h; simp [World.cell?, h]

theorem Blk.free {w : World} {b : Nat} {t : TypeId} {cs : List Value} (h : Blk w b t cs) (o : Nat) : w.frozen? ⟨b, o, none⟩ = false := by
  unfold Blk at h; simp [World.frozen?, h]

theorem Blk.set {w : World} {b : Nat} {t : TypeId} {cs : List Value} (h : Blk w b t cs) (o : Nat) (v : Value) : Blk (w.setCell ⟨b, o, none⟩ v) b t (cs.set o v) := by
  unfold Blk at *
  simp [World.setCell, Array.getElem?_modify, h]

theorem Blk.set_ne {w : World} {b b' : Nat} {t : TypeId} {cs : List Value} (h : Blk w b t cs) (hb : b ≠ b') (o : Nat) (v : Value) : Blk (w.setCell ⟨b', o, none⟩ v) b t cs := by
  unfold Blk at *
  rw [Below.heap_setCell _ _ _ _ hb]; exact h

theorem Blk.alloc {w : World} {b : Nat} {t : TypeId} {cs : List Value} (h : Blk w b t cs) (o : Obj) : Blk (w.alloc o) b t cs := by
  have := h.lt
  unfold Blk at *
  rw [Below.heap_alloc _ _ _ this]; exact h

theorem Blk.new (w : World) (t : TypeId) (cs : List Value) : Blk (w.alloc (.cells cs.toArray t)) w.heap.size t cs := by
  unfold Blk
  show (w.heap.push _)[w.heap.size]? = _
  simp

theorem Blk.drew {w : World} {b : Nat} {t : TypeId} {cs : List Value} (h : Blk w b t cs) : Blk w.drew b t cs := h
theorem Blk.drewN {w : World} {b : Nat} {t : TypeId} {cs : List Value} (h : Blk w b t cs) (n : Nat) : Blk (w.drewN n) b t cs := h

theorem Blk.kept {S : Nat → Prop} {w w' : World} {b : Nat} {t : TypeId} {cs : List Value} (h : Blk w b t cs) (k : Kept S w w') (hb : ¬ S b) : Blk w' b t cs := by
  have := h.lt
  unfold Blk at *
  rw [k.block b this hb]; exact h

theorem Kept.refl (S : Nat → Prop) (w : World) : Kept S w w := ⟨rfl, rfl, rfl, Nat.le_refl _, fun _ _ _ => rfl⟩
theorem Kept.trans {S : Nat → Prop} {a b c : World} (h : Kept S a b) (k : Kept S b c) : Kept S a c :=
  ⟨k.os.trans h.os, k.tape.trans h.tape, k.output.trans h.output, Nat.le_trans h.size k.size, fun i hi hs => (k.block i (by have := h.size; omega) hs).trans (h.block i hi hs)⟩
theorem Kept.mono {S S' : Nat → Prop} {w w' : World} (h : Kept S w w') (hs : ∀ k, k < w.heap.size → S k → S' k) : Kept S' w w' :=
  ⟨h.os, h.tape, h.output, h.size, fun k hk hn => h.block k hk (fun x => hn (hs k hk x))⟩
/-- What came behind may write whatever it likes of what is new. -/
theorem Kept.then {S S' : Nat → Prop} {a b c : World} (h : Kept S a b) (k : Kept S' b c) (hs : ∀ k, k < a.heap.size → S' k → S k) : Kept S a c :=
  ⟨k.os.trans h.os, k.tape.trans h.tape, k.output.trans h.output, Nat.le_trans h.size k.size,
   fun i hi hn => (k.block i (by have := h.size; omega) (fun x => hn (hs i hi x))).trans (h.block i hi hn)⟩
theorem Kept.alloc {S : Nat → Prop} {a w : World} (h : Kept S a w) (o : Obj) : Kept S a (w.alloc o) :=
  h.trans ⟨rfl, rfl, rfl, by simp, fun k hk _ => Below.heap_alloc _ _ _ hk⟩
theorem Kept.setCell {S : Nat → Prop} {a w : World} (h : Kept S a w) {p : Addr} (hp : p.block < a.heap.size → S p.block) (u : Value) : Kept S a (w.setCell p u) :=
  ⟨h.os, h.tape, h.output, by have := h.size; simp only [World.size_setCell]; omega, fun k hk hn => by
    rw [Below.heap_setCell _ _ _ _ (fun e => hn (by subst e; exact hp hk))]; exact h.block k hk hn⟩
theorem Kept.drew {S : Nat → Prop} {a w : World} (h : Kept S a w) : Kept S a w.drew := ⟨h.os, h.tape, h.output, h.size, h.block⟩
theorem Kept.drewN {S : Nat → Prop} {a w : World} (h : Kept S a w) (n : Nat) : Kept S a (w.drewN n) := ⟨h.os, h.tape, h.output, h.size, h.block⟩
theorem Kept.grown {S : Nat → Prop} {a w w' : World} {row : Option Nat} (h : Kept S a w) (hg : w.grownBy w' row) (hr : ∀ k, row = some k → k < a.heap.size → S k) : Kept S a w' :=
  ⟨hg.os.trans h.os, hg.tape.trans h.tape, hg.output.trans h.output, Nat.le_trans h.size hg.size,
   fun k hk hn => (hg.block k (by have := h.size; omega) (fun e => hn (hr k e.symm hk))).trans (h.block k hk hn)⟩
theorem Kept.below {w w' : World} {B : Nat} (h : Kept (fun k => B ≤ k) w w') : Below B w w' ∨ w.heap.size < B := by
  rcases Nat.lt_or_ge w.heap.size B with hB | hB
  · exact .inr hB
  · exact .inl ⟨h.os, h.tape, h.output, h.size, fun k hk => h.block k (by omega) (by simpa using hk)⟩
theorem Kept.ofBelow {w w' : World} {B : Nat} (h : Below B w w') : Kept (fun k => B ≤ k) w w' :=
  ⟨h.os, h.tape, h.output, h.size, fun k _ hn => h.block k (by omega)⟩
theorem Kept.cell {S : Nat → Prop} {w w' : World} (h : Kept S w w') {p : Addr} (hp : ¬ S p.block) (hl : p.block < w.heap.size) : w'.cell? p = w.cell? p :=
  World.cell?_of_block (w := w) (h.block p.block hl hp)

end Go.Roar
namespace Go.Roar
open Go.RowKit

/-- The slice value v, of n elements of 'size' cells each, owns a block of its own, whose first cells are xs; or it is nil and empty. -/
def Own (w : World) (size : Nat) (e : TypeId) (v : Value) (n : Nat) (xs : List Value) : Prop :=
  xs.length = n * size ∧ ((v = .slice none 0 0 ∧ n = 0) ∨
    ∃ g k r, v = .slice (some ⟨g, 0, none⟩) n (n + k) ∧ r.length = k * size ∧ n + k ≤ maxLen ∧ Blk w g e (xs ++ r))

theorem Own.toRow {w : World} {size : Nat} {e : TypeId} {v : Value} {n : Nat} {xs : List Value} (h : Own w size e v n xs) : w.ownsRow 0 e size v n xs := by
  obtain ⟨hl, h⟩ := h
  refine ⟨hl, ?_⟩
  rcases h with h | ⟨g, k, r, hv, hr, hm, hb⟩
  · exact .inl h
  · refine .inr ⟨g, n + k, (xs ++ r).toArray, hv, Nat.zero_le _, hb, Nat.le_add_right _ _, hm, ?_, ?_⟩
    · simp [hl, hr, Nat.add_mul]
    · simp [← hl]

theorem Own.ofRow {w : World} {base size : Nat} {e : TypeId} {v : Value} {n : Nat} {xs : List Value} (h : w.ownsRow base e size v n xs) : Own w size e v n xs := by
  obtain ⟨hl, h⟩ := h
  refine ⟨hl, ?_⟩
  rcases h with h | ⟨g, cap, cur, hv, _, hb, hn, hm, hs, ht⟩
  · exact .inl h
  · refine .inr ⟨g, cap - n, cur.toList.drop (n * size), by rw [hv]; congr 1; omega, ?_, by omega, ?_⟩
    · simp [hs, Nat.sub_mul]
    · unfold Blk
      rw [← ht, List.take_append_drop]
      simpa using hb

/-- The one block that a slice lies in. -/
def blkOf (v : Value) : List Nat := v.ownBlock.toList

@[simp] theorem blkOf_nil : blkOf (.slice none 0 0) = [] := rfl
@[simp] theorem blkOf_some (g o n c : Nat) : blkOf (.slice (some ⟨g, o, none⟩) n c) = [g] := rfl

theorem Own.lt {w : World} {size : Nat} {e : TypeId} {v : Value} {n : Nat} {xs : List Value} (h : Own w size e v n xs) : ∀ b ∈ blkOf v, b < w.heap.size := by
  obtain ⟨_, ⟨rfl, _⟩ | ⟨g, k, r, rfl, _, _, hb⟩⟩ := h
  · simp
  · simpa using hb.lt

theorem Own.kept {S : Nat → Prop} {w w' : World} {size : Nat} {e : TypeId} {v : Value} {n : Nat} {xs : List Value} (h : Own w size e v n xs) (k : Kept S w w') (hb : ∀ b ∈ blkOf v, ¬ S b) : Own w' size e v n xs := by
  obtain ⟨hl, ⟨rfl, h0⟩ | ⟨g, j, r, rfl, hr, hm, hg⟩⟩ := h
  · exact ⟨hl, .inl ⟨rfl, h0⟩⟩
  · exact ⟨hl, .inr ⟨g, j, r, rfl, hr, hm, hg.kept k (hb g (by simp))⟩⟩

theorem Own.len {w : World} {size : Nat} {e : TypeId} {v : Value} {n : Nat} {xs : List Value} (h : Own w size e v n xs) : xs.length = n * size := h.1

theorem Own.nil (w : World) (size : Nat) (e : TypeId) : Own w size e (.slice none 0 0) 0 [] := ⟨by simp, .inl ⟨rfl, rfl⟩⟩

theorem Own.alloc {w : World} {size : Nat} {e : TypeId} {v : Value} {n : Nat} {xs : List Value} (h : Own w size e v n xs) (o : Obj) : Own (w.alloc o) size e v n xs :=
  h.kept (S := fun _ => False) ((Kept.refl _ _).alloc o) (fun _ _ => id)

/-- Cell j of a slice that is owned. -/
theorem Own.open {w : World} {size : Nat} {e : TypeId} {v : Value} {n : Nat} {xs : List Value} (h : Own w size e v n xs) (hn : 0 < n) :
    ∃ g k r, v = .slice (some ⟨g, 0, none⟩) n (n + k) ∧ r.length = k * size ∧ n + k ≤ maxLen ∧ Blk w g e (xs ++ r) := by
  rcases h.2 with ⟨_, h0⟩ | h
  · omega
  · exact h
end Go.Roar

namespace Go.Roar
open Go.RowKit

def u16s (l : List Nat) : List Value := l.map fun (n : Nat) => .int .u16 (n : Int)

@[simp] theorem u16s_length (l : List Nat) : (u16s l).length = l.length := by simp [u16s]
theorem u16s_at {l : List Nat} {j x : Nat} (h : l[j]? = some x) (r : List Value) : (u16s l ++ r)[j]? = some (.int .u16 (x : Int)) := by
  have hj : j < l.length := (List.getElem?_eq_some_iff.1 h).1
  rw [List.getElem?_append_left (by simpa using hj)]
  simp [u16s, h]

def u64s (l : List Nat) : List Value := l.map fun (n : Nat) => .int .u64 (n : Int)
def u8s (l : List Nat) : List Value := l.map fun (n : Nat) => .int .u8 (n : Int)
@[simp] theorem u64s_length (l : List Nat) : (u64s l).length = l.length := by simp [u64s]
@[simp] theorem u8s_length (l : List Nat) : (u8s l).length = l.length := by simp [u8s]
theorem u64s_at {l : List Nat} {j x : Nat} (h : l[j]? = some x) : (u64s l)[j]? = some (.int .u64 (x : Int)) := by simp [u64s, h]
theorem u16s_get {l : List Nat} {j x : Nat} (h : l[j]? = some x) : (u16s l)[j]? = some (.int .u16 (x : Int)) := by simp [u16s, h]
theorem u8s_at {l : List Nat} {j x : Nat} (h : l[j]? = some x) : (u8s l)[j]? = some (.int .u8 (x : Int)) := by simp [u8s, h]

theorem ret_int {k : IntKind} {a b : Int} (h : a = b) : Ending.returned (.int k a) = .returned (.int k b) := by rw [h]
theorem int_eq {k : IntKind} {a b : Int} (h : a = b) : Value.int k a = Value.int k b := by rw [h]
theorem some_eq {a b : Value} (h : a = b) : some a = some b := by rw [h]
end Go.Roar

namespace Go.Roar
open Go.RowKit
/-- Nothing that was there has been written. -/
abbrev Mild (w w' : World) : Prop := Kept (fun _ => False) w w'
theorem Kept.cell2 {S : Nat → Prop} {w w' : World} (h : Kept S w w') {p : Addr} {v : Value} (hp : ¬ S p.block) (hc : w.cell? p = some v) : w'.cell? p = some v := by
  have hl : p.block < w.heap.size := by
    rcases Nat.lt_or_ge p.block w.heap.size with h | h
    · exact h
    · simp [World.cell?, Array.getElem?_eq_none h] at hc
  rw [h.cell hp hl]; exact hc
end Go.Roar

namespace Go.Roar
open Go.RowKit

theorem Kept.setCells (b : Nat) : ∀ (vs : List Value) (o : Nat) (w : World), Kept (· = b) w (w.setCells b o vs)
  | [], _, w => Kept.refl _ w
  | v :: r, o, w => by
    have h1 : Kept (· = b) w (w.setCell ⟨b, o, none⟩ v) := Kept.setCell (S := (· = b)) (p := ⟨b, o, none⟩) (Kept.refl _ _) (fun _ => rfl) _
    exact h1.trans (Kept.setCells b r (o + 1) _)

theorem Blk.setCells {b : Nat} {t : TypeId} : ∀ (vs mid pre post : List Value) (w : World), Blk w b t (pre ++ mid ++ post) → mid.length = vs.length → Blk (w.setCells b pre.length vs) b t (pre ++ vs ++ post)
  | [], mid, pre, post, w, h, hl => by
    obtain rfl : mid = [] := List.eq_nil_of_length_eq_zero (by simpa using hl)
    exact h
  | v :: vs, [], pre, post, w, h, hl => by simp at hl
  | v :: vs, m :: mid, pre, post, w, h, hl => by
    have h1 := h.set pre.length v
    rw [List.append_assoc, List.set_append_right _ _ (Nat.le_refl _), Nat.sub_self] at h1
    have h2 : Blk (w.setCell ⟨b, pre.length, none⟩ v) b t ((pre ++ [v]) ++ mid ++ post) := by simpa using h1
    have h3 := Blk.setCells vs mid (pre ++ [v]) post _ h2 (by simpa using hl)
    simpa [World.setCells] using h3

/-- 'append(s, x...)', s owning its block: the result owns its block, which is the elder one or a new one. -/
theorem wpList_append_mine {P : Program} {w : World} {ops : Array Oper} {rest : List Oper} {o : Oper} {a : Act} {Q : Exit → Act → World → Prop} (hgd : o.guard = none) (s x : Operand) (t : TypeId)
    (ho : o.op = .call { callee := .builtin .append, args := #[s, x], argTypes := #[t, t] })
    (e : TypeId) (i : TypeInfo) (z : Value) (size bytes : Nat) (ht : P.underlying t = some (.slice e)) (hi : P.info? e = some i) (hz : i.zero = some z)
    (hsize : i.size = size) (hby : i.bytes = bytes) (hzs : z.cells.size = size) (hsz : 0 < size)
    (v : Value) (n : Nat) (xs : List Value) (hs : a.eval s = v) (hown : Own w size e v n xs)
    (ad : Addr) (m c : Nat) (news : List Value) (hx : a.eval x = .slice (some ad) m c) (hl : news.length = m * size) (hnews : ∀ j u, news[j]? = some u → w.cell? (ad.add j) = some u) (h1 : ∀ u ∈ news, u.oneCell' = true)
    (h63 : n + m ≤ maxLen) (hbytes : (n + m) * bytes ≤ 140737488355328)
    (h : ∀ v' w', Own w' size e v' (n + m) (xs ++ news) → Kept (· ∈ blkOf v) w w' → (∀ b ∈ blkOf v', b ∈ blkOf v ∨ w.heap.size ≤ b) → wpList P ops Q rest (a.put o.dst v') w') : wpList P ops Q (o :: rest) a w := by
  obtain ⟨hxl, ⟨rfl, rfl⟩ | ⟨g, k, r, rfl, hr, hm, hg⟩⟩ := hown
  · obtain rfl : xs = [] := List.eq_nil_of_length_eq_zero (by simpa using hxl)
    refine wpList_append_own w hgd s x t ho w.heap.size e i z size bytes ht hi hz hsize hby hzs hsz _ 0 [] hs ⟨by simp, .inl ⟨rfl, rfl⟩⟩ ad m c news hx hl hnews h1 h63 hbytes (Nat.le_refl _) ?_
    intro v' w' hown hgr _
    refine h v' w' (Own.ofRow hown) ((Kept.refl _ _).grown hgr (by intro k hk; simp [Value.ownBlock] at hk)) ?_
    intro b hb
    rcases hown.2 with ⟨rfl, _⟩ | ⟨g, cap, cur, rfl, hg, _⟩
    · simp at hb
    · simp at hb; subst hb; exact .inr hg
  · refine wpList_append_arg w hgd s x t ho e i z size bytes ht hi hz hsize hby hzs hsz g 0 n (n + k) xs hs hxl
      (fun j u hj => by
        rw [Nat.zero_add]
        rw [hg.cell j, List.getElem?_append_left (List.getElem?_eq_some_iff.1 hj).1]; exact hj) ad m c news hx hl hnews h1 ?_ h63 hbytes ?_ ?_
    · intro hroom j hj
      rw [Nat.zero_add]
      refine ⟨?_, hg.free _⟩
      rw [hg.cell, List.getElem?_append_right (by omega)]
      have : m * size ≤ k * size := Nat.mul_le_mul_right _ (by omega)
      simp; omega
    · intro hroom
      have hms : m * size ≤ k * size := Nat.mul_le_mul_right _ (by omega)
      have hB : Blk (w.setCells g (0 + n * size) news) g e (xs ++ news ++ r.drop (m * size)) := by
        rw [Nat.zero_add, ← hxl]
        refine Blk.setCells news (r.take (m * size)) xs (r.drop (m * size)) w (by rw [List.append_assoc, List.take_append_drop]; exact hg) (by simp; omega)
      refine h _ _ ⟨by simp [hxl, hl, Nat.add_mul], .inr ⟨g, k - m, r.drop (m * size), by congr 1; omega, ?_, by omega, hB⟩⟩ ?_ ?_
      · simp [hr, Nat.sub_mul]
      · exact (Kept.setCells g news _ w).mono (by intro k _ hk; simp [hk])
      · intro b hb; exact .inl (by simpa using hb)
    · intro hgrow v' w' hown hgr
      refine h v' w' (Own.ofRow hown) ((Kept.refl _ _).grown hgr (by intro k hk; cases hk)) ?_
      intro b hb
      rcases hown.2 with ⟨rfl, _⟩ | ⟨g', cap, cur, rfl, hg', _⟩
      · simp at hb
      · simp at hb; subst hb; exact .inr hg'

theorem Kept.setRow (w : World) (g : Nat) (cs : Array Value) : Kept (· = g) w (w.setRow g cs) :=
  ⟨rfl, rfl, rfl, by simp [World.setRow], fun k _ hk => setRow_other w g k cs hk⟩

theorem run_copy_wide {P : Program} (w : World) (dT sT ty elem : TypeId) (size g o dLen dCap : Nat) (a : Addr) (sLen sCap n : Nat) (cur : List Value) (t : TypeId) (cs : List Value)
    (hu : P.underlying dT = some (.slice elem)) (hs : (P.info? elem).map (·.size) = some size)
    (hg : Blk w g t cur) (hn : n = Nat.min sLen dLen) (hl : cs.length = n * size)
    (hsrc : ∀ j v, cs[j]? = some v → w.cell? (a.add j) = some v) (hfit : o + cs.length ≤ cur.length) (h1 : ∀ v ∈ cs, v.oneCell' = true) :
    (Builtin.copy_ #[dT, sT] ty #[.slice (some ⟨g, o, none⟩) dLen dCap, .slice (some a) sLen sCap]).run P w =
      .ok (goInt n) (w.setRow g (splice cur o cs).toArray) := by
  have hf := run_firstCells_some (P := P) w size n a sLen sCap cs hl hsrc
  have hst := run_storeCells_at P g o t cs 0 cur.toArray w hg (by simpa using hfit) h1
  cases hq : P.info? elem with
  | none => simp [hq] at hs
  | some i =>
    have hi : i.size = size := by simpa [hq] using hs
    simp only [Nat.add_zero] at hst
    simp [Builtin.copy_, run_underlying hu, Builtin.lenOf, sizeOf, typeInfo, hq, hi, ← hn, hf, hst, splice]

theorem run_copy_zero {P : Program} (w : World) (dT sT ty elem : TypeId) (d s : Option Addr) (dLen dCap sLen sCap : Nat)
    (hu : P.underlying dT = some (.slice elem)) (hs : ((P.info? elem).map (·.size)).isSome = true) (hn : Nat.min sLen dLen = 0) :
    (Builtin.copy_ #[dT, sT] ty #[.slice d dLen dCap, .slice s sLen sCap]).run P w = .ok (goInt 0) w := by
  cases hq : P.info? elem with
  | none => simp [hq] at hs
  | some i =>
    have hf : (Builtin.firstCells i.size 0 (.slice s sLen sCap)).run P w = .ok #[] w := by
      cases s with
      | none => simp [Builtin.firstCells]
      | some a => exact run_firstCells_some (P := P) w i.size 0 a sLen sCap [] (by simp) (by simp)
    cases d <;> simp [Builtin.copy_, run_underlying hu, Builtin.lenOf, sizeOf, typeInfo, hq, hn, hf, storeCells]

/-- 'copy(d, s)': n elements of 'size' cells are laid over block g from cell 'off' on. -/
theorem wpList_copy_mine {P : Program} {w : World} {ops : Array Oper} {rest : List Oper} {o : Oper} {a : Act} {Q : Exit → Act → World → Prop} (hgd : o.guard = none) (d s : Operand) (dT sT : TypeId)
    (ho : o.op = .call { callee := .builtin .copy, args := #[d, s], argTypes := #[dT, sT] }) (elem : TypeId) (size : Nat) (hu : P.underlying dT = some (.slice elem)) (hsz : (P.info? elem).map (·.size) = some size)
    (dp sp : Option Addr) (dLen dCap sLen sCap : Nat) (hd : a.eval d = .slice dp dLen dCap) (hs : a.eval s = .slice sp sLen sCap)
    (g off n : Nat) (cur : List Value) (t : TypeId) (hg : Blk w g t cur) (cs : List Value) (hn : n = Nat.min sLen dLen) (hl : cs.length = n * size)
    (hpos : 0 < n → dp = some ⟨g, off, none⟩ ∧ ∃ ad, sp = some ad ∧ ∀ j v, cs[j]? = some v → w.cell? (ad.add j) = some v)
    (hfit : off + cs.length ≤ cur.length) (h1 : ∀ v ∈ cs, v.oneCell' = true)
    (h : ∀ w', Blk w' g t (splice cur off cs) → Kept (· = g) w w' → wpList P ops Q rest (a.put o.dst (goInt n)) w') :
    wpList P ops Q (o :: rest) a w := by
  refine wpList_plain hgd fun K hK => ?_
  rcases Nat.eq_zero_or_pos n with h0 | h0
  · subst h0
    obtain rfl : cs = [] := List.eq_nil_of_length_eq_zero (by simpa using hl)
    have hrun := run_copy_zero (P := P) w dT sT o.type elem dp sp dLen dCap sLen sCap hu (by rw [hsz]; rfl) hn.symm
    unfold Oper.wp
    simp [execOp, ho, resolve, invoke, builtin, hd, hs, hrun, Result.andThen]
    exact hK _ _ (h w (by simpa [splice] using hg) (Kept.refl _ _))
  · obtain ⟨rfl, ad, rfl, hsrc⟩ := hpos h0
    have hrun := run_copy_wide (P := P) w dT sT o.type elem size g off dLen dCap ad sLen sCap n cur t cs hu hsz hg hn hl hsrc hfit h1
    unfold Oper.wp
    simp [execOp, ho, resolve, invoke, builtin, hd, hs, hrun, Result.andThen]
    exact hK _ _ (h _ (setRow_heap w g _ _ t _ hg) (Kept.setRow w g _))
end Go.Roar

namespace Go.Roar
open Go.RowKit

theorem Kept.one (w : World) (b o : Nat) (v : Value) : Kept (fun k => k = b) w (w.setCell ⟨b, o, none⟩ v) := Kept.setCell (S := fun k => k = b) (p := ⟨b, o, none⟩) (Kept.refl _ _) (fun _ => rfl) _

theorem Mild.one {w W : World} (h : Mild w W) (b o : Nat) (v : Value) : Kept (fun k => k = b) w (W.setCell ⟨b, o, none⟩ v) := Kept.setCell (S := fun k => k = b) (p := ⟨b, o, none⟩) (h.mono (fun _ _ => False.elim)) (fun _ => rfl) _

/-- A slice's address under which n bytes are read. -/
def RB (w : World) (A : Option Addr) (n c : Nat) (bs : List Nat) : Prop :=
  bs.length = n ∧ n ≤ c ∧ (∀ b ∈ bs, b < 256) ∧ (0 < n → ∃ g o, A = some ⟨g, o, none⟩ ∧ ∀ (j x : Nat), bs[j]? = some x → w.cell? ⟨g, o + j, none⟩ = some (.int .u8 (x : Int)))

theorem RB.kept {S : Nat → Prop} {w w' : World} {A : Option Addr} {n c : Nat} {bs : List Nat} (h : RB w A n c bs) (k : Kept S w w') (hs : ∀ a, A = some a → ¬ S a.block) : RB w' A n c bs :=
  ⟨h.1, h.2.1, h.2.2.1, fun hn => by
    obtain ⟨g, o, rfl, hc⟩ := h.2.2.2 hn
    exact ⟨g, o, rfl, fun j x hx => k.cell2 (hs ⟨g, o, none⟩ rfl) (hc j x hx)⟩⟩
theorem RB.mild {w w' : World} {A : Option Addr} {n c : Nat} {bs : List Nat} (h : RB w A n c bs) (k : Mild w w') : RB w' A n c bs := h.kept k (fun _ _ => id)

/-- ys as far as place q, zs behind it. -/
def mix {α : Type} (ys zs : List α) (q : Nat) : List α := ys.take q ++ zs.drop q
theorem mix_zero {α : Type} (ys zs : List α) : mix ys zs 0 = zs := by simp [mix]
theorem mix_all {α : Type} (ys zs : List α) {q : Nat} (h1 : ys.length = q) (h2 : zs.length = q) : mix ys zs q = ys := by
  unfold mix; rw [List.take_of_length_le (by omega), List.drop_eq_nil_of_le (by omega), List.append_nil]
theorem mix_length {α : Type} (ys zs : List α) (q : Nat) (h : ys.length = zs.length) : (mix ys zs q).length = zs.length := by simp [mix]; omega
theorem mix_set {α : Type} (ys zs : List α) {q : Nat} {y : α} (h : ys.length = zs.length) (hy : ys[q]? = some y) : (mix ys zs q).set q y = mix ys zs (q + 1) := by
  obtain ⟨hq, e⟩ := List.getElem?_eq_some_iff.1 hy
  have h1 : (ys.take q).length = q := by simp; omega
  unfold mix
  rw [List.set_append_right _ _ (by omega), h1, Nat.sub_self, List.drop_eq_getElem_cons (by omega), List.set_cons_zero, List.take_succ_eq_append_getElem hq, e]
  simp

/-- 'make([]T, n)', 'make([]T, n, n)': the new block, known whole. -/
theorem wpList_make_blk {P : Program} {w : World} {ops : Array Oper} {rest : List Oper} {o : Oper} {a : Act} {Q : Exit → Act → World → Prop}
    (hg : o.guard = none) (l c : Operand) (t : TypeId) (hop : o.op = Op.makeSlice t l c)
    (e : TypeId) (i : TypeInfo) (z : Value) (size : Nat) (h1 : P.underlying t = some (.slice e)) (h2 : P.info? e = some i) (h3 : i.zero = some z) (h4 : i.size = size)
    (kl kc : IntKind) (X Y : Int) (n : Nat) (hl : a.eval l = .int kl X) (hc : a.eval c = .int kc Y) (hL : X = (n : Int)) (hC : Y = (n : Int)) (b2 : i.bytes * n ≤ 281474976710656) (b3 : n ≤ maxLen)
    (hK : ∀ w', Blk w' w.heap.size e (madeCells z.cells (n * size)).toList → Mild w w' → w.heap.size < w'.heap.size → wpList P ops Q rest (a.put o.dst (.slice (some ⟨w.heap.size, 0, none⟩) n n)) w') :
    wpList P ops Q (o :: rest) a w := by
  refine wpList_make_full w hg l c t hop w.heap.size e i z size h1 h2 h3 h4 kl kc X Y n hl hc hL hC b2 b3 (Nat.le_refl _) ?_
  intro w' hown hgr
  obtain ⟨hl, ⟨hv, _⟩ | ⟨g, k, r, hv, hr, _, hb⟩⟩ := Own.ofRow hown
  · simp at hv
  · simp only [Value.slice.injEq, Option.some.injEq, Addr.mk.injEq, and_true, true_and] at hv
    obtain ⟨rfl, hk⟩ := hv
    obtain rfl : k = 0 := by omega
    obtain rfl : r = [] := List.eq_nil_of_length_eq_zero (by simpa using hr)
    rw [List.append_nil] at hb
    exact hK _ hb ((Kept.refl _ _).grown hgr (by intro k hk; cases hk)) hb.lt
theorem made_all (z : Value) (n : Nat) (hz : z.cells = #[z]) : ∀ b ∈ (madeCells z.cells n).toList, b = z := by
  intro b hb
  rw [hz] at hb
  simp only [madeCells, Array.mem_toList_iff, Array.mem_map] at hb
  obtain ⟨j, _, rfl⟩ := hb
  simp [Nat.mod_one]
theorem made_length (z : Value) (n : Nat) : (madeCells z.cells n).toList.length = n := by simp [size_madeCells]
/-- A region that draws its order: reads first, then what stands from place n on. -/
theorem wp_region_tail {P : Program} {id : Nat} {Q : Exit → Act → World → Prop} {a : Act} {w : World} {l : List Oper} (n : Nat) (hm : P.follows .mixedOrders = true) (hB : Region.lexTailB .any l.toArray n = true)
    (h : wpStill P l.toArray w.drew (fun a' => wpList P l.toArray Q (l.drop n) a' w.drew) (l.take n) a) : (Code.region id l.toArray true).wp P Q a w :=
  wp_region_still_tail n hm hB h

/-- Where a slice that is cut from place l on begins: at a cut that leaves no capacity Go keeps the elder address. -/
def tlA (g o l cap sz : Nat) : Addr := if cap = l then ⟨g, o, none⟩ else ⟨g, o + l * sz, none⟩
theorem tlA_of {g o l cap sz : Nat} (h : l < cap) : tlA g o l cap sz = ⟨g, o + l * sz, none⟩ := by unfold tlA; rw [if_neg (by omega)]
theorem tlA_zero (g o cap sz : Nat) : tlA g o 0 cap sz = ⟨g, o, none⟩ := by unfold tlA; simp

theorem run_slice_from {P : Program} (w : World) {t e : TypeId} {sz : Nat} (ht : P.underlying t = some (.slice e)) (hs : (P.info? e).map (·.size) = some sz) (g o len cap l : Nat) (k : IntKind) (j : Int) (hj : j = (l : Int)) (hl : l ≤ len) :
    (Instr.slice t (.slice (some ⟨g, o, none⟩) len cap) (some (.int k j)) none none).run P w = .ok (.slice (some (tlA g o l cap sz)) (len - l) (cap - l)) w := by
  subst hj
  cases hq : P.info? e with
  | none => simp [hq] at hs
  | some i =>
    have hi : i.size = sz := by simpa [hq] using hs
    subst hi
    simp only [Instr.slice, Sem.run_bind, run_underlying ht, Result.andThen_ok, Instr.sliceBounds, Instr.sliceBound]
    simp [sizeOf, typeInfo, hq, hl, asIntOf, go_sem]
    unfold tlA
    by_cases hc : cap = l
    · simp [hc]
    · simp only [hc, if_false]
theorem run_cut_from {P : Program} (w : World) {t e : TypeId} (ht : P.underlying t = some (.slice e)) (hs : (P.info? e).map (·.size) = some 1) (g o len cap l : Nat) (k : IntKind) (j : Int) (hj : j = (l : Int)) (hl : l ≤ len) (hc : l < cap) :
    (Instr.slice t (.slice (some ⟨g, o, none⟩) len cap) (some (.int k j)) none none).run P w = .ok (.slice (some ⟨g, o + l, none⟩) (len - l) (cap - l)) w := by
  have := run_slice_from w ht hs g o len cap l k j hj hl
  rwa [tlA_of hc, Nat.mul_one] at this
theorem run_cut_both {P : Program} (w : World) {t e : TypeId} (ht : P.underlying t = some (.slice e)) (hs : (P.info? e).map (·.size) = some 1) (g o len cap l h : Nat) (k k' : IntKind) (j j' : Int) (hj : j = (l : Int)) (hj' : j' = (h : Int)) (hl : l ≤ h) (hh : h ≤ cap) :
    (Instr.slice t (.slice (some ⟨g, o, none⟩) len cap) (some (.int k j)) (some (.int k' j')) none).run P w = .ok (.slice (some (tlA g o l cap 1)) (h - l) (cap - l)) w := by
  subst hj hj'
  cases hq : P.info? e with
  | none => simp [hq] at hs
  | some i =>
    have hi : i.size = 1 := by simpa [hq] using hs
    simp only [Instr.slice, Sem.run_bind, run_underlying ht, Result.andThen_ok, Instr.sliceBounds, Instr.sliceBound]
    simp [sizeOf, typeInfo, hq, hl, hh, hi, asIntOf, go_sem]
    unfold tlA
    by_cases hc : cap = l
    · simp [hc]
    · simp only [hc, if_false]; simp
theorem u8s_append (a b : List Nat) : u8s (a ++ b) = u8s a ++ u8s b := by simp [u8s]
theorem u8s_each (l : List Nat) : ∀ u ∈ u8s l, u.oneCell' = true := by
  intro u hu
  unfold u8s at hu
  rw [List.mem_map] at hu
  obtain ⟨x, _, rfl⟩ := hu
  rfl
theorem made_u8s (n : Nat) : (madeCells (Value.int IntKind.u8 0).cells (n * 1)).toList = u8s (List.replicate n 0) := by
  rw [Nat.mul_one]
  have h := List.eq_replicate_iff.2 ⟨made_length (Value.int IntKind.u8 0) n, made_all (Value.int IntKind.u8 0) n rfl⟩
  rw [h]; simp [u8s]
theorem u8s_set (l : List Nat) (i x : Nat) : (u8s l).set i (.int .u8 (x : Int)) = u8s (l.set i x) := by simp [u8s, List.map_set]
end Go.Roar

namespace Go.Roar
open Go.RowKit

structure HA where
  F : List Nat
  P : World → Prop
  loc : ∀ w w' : World, (∀ b ∈ F, w'.heap[b]? = w.heap[b]?) → P w → P w'
  lt : ∀ w : World, P w → ∀ b ∈ F, b < w.heap.size

def foot (L : List HA) : List Nat := L.flatMap HA.F

@[simp] theorem foot_nil : foot [] = [] := rfl
@[simp] theorem foot_cons (A : HA) (L : List HA) : foot (A :: L) = A.F ++ foot L := rfl
@[simp] theorem foot_append (L M : List HA) : foot (L ++ M) = foot L ++ foot M := by simp [foot]

structure Parts (w : World) (L : List HA) : Prop where
  all : ∀ A ∈ L, A.P w
  nd : (foot L).Nodup

/-- One block, known whole. -/
def B (b : Nat) (t : TypeId) (cs : List Value) : HA where
  F := [b]
  P w := Blk w b t cs
  loc w w' h hp := by unfold Blk at *; rw [h b (by simp)]; exact hp
  lt w hp b' hb := by simp at hb; subst hb; exact Blk.lt hp

theorem Own.same {w w' : World} {size : Nat} {e : TypeId} {v : Value} {n : Nat} {xs : List Value} (h : Own w size e v n xs) (hb : ∀ b ∈ blkOf v, w'.heap[b]? = w.heap[b]?) : Own w' size e v n xs := by
  obtain ⟨hl, ⟨rfl, h0⟩ | ⟨g, j, r, rfl, hr, hm, hg⟩⟩ := h
  · exact ⟨hl, .inl ⟨rfl, h0⟩⟩
  · refine ⟨hl, .inr ⟨g, j, r, rfl, hr, hm, ?_⟩⟩
    unfold Blk at *; rw [hb g (by simp)]; exact hg

/-- A slice with its block. -/
def O (size : Nat) (e : TypeId) (v : Value) (n : Nat) (xs : List Value) : HA where
  F := blkOf v
  P w := Own w size e v n xs
  loc _ _ h hp := Own.same hp h
  lt _ hp := Own.lt hp

theorem foot_mem {L : List HA} {A : HA} {b : Nat} (hA : A ∈ L) (hb : b ∈ A.F) : b ∈ foot L := List.mem_flatMap.2 ⟨A, hA, hb⟩
theorem foot_of {L : List HA} {b : Nat} (h : b ∈ foot L) : ∃ A ∈ L, b ∈ A.F := List.mem_flatMap.1 h

theorem Parts.lt {w : World} {L : List HA} (h : Parts w L) : ∀ b ∈ foot L, b < w.heap.size := by
  intro b hb
  obtain ⟨A, hA, hb⟩ := foot_of hb
  exact A.lt w (h.all A hA) b hb

/-- What was apart before a stretch that wrote blocks of S alone, and stands clear of S, is as it was. -/
theorem Parts.kept {S : Nat → Prop} {w w' : World} {L : List HA} (h : Parts w L) (k : Kept S w w') (hs : ∀ b ∈ foot L, ¬ S b) : Parts w' L :=
  ⟨fun A hA => A.loc w w' (fun b hb => k.block b (A.lt w (h.all A hA) b hb) (hs b (foot_mem hA hb))) (h.all A hA), h.nd⟩

theorem Parts.left {w : World} {L M : List HA} (h : Parts w (L ++ M)) : Parts w L :=
  ⟨fun A hA => h.all A (List.mem_append_left _ hA), by have := h.nd; rw [foot_append] at this; exact (List.nodup_append.1 this).1⟩
theorem Parts.right {w : World} {L M : List HA} (h : Parts w (L ++ M)) : Parts w M :=
  ⟨fun A hA => h.all A (List.mem_append_right _ hA), by have := h.nd; rw [foot_append] at this; exact (List.nodup_append.1 this).2.1⟩
theorem Parts.apart {w : World} {L M : List HA} (h : Parts w (L ++ M)) : ∀ b ∈ foot L, b ∉ foot M := by
  have := h.nd
  rw [foot_append] at this
  intro b h1 h2
  exact (List.nodup_append.1 this).2.2 b h1 b h2 rfl

theorem foot_perm {L M : List HA} (h : L.Perm M) : (foot L).Perm (foot M) := List.Perm.flatMap_right _ h

theorem Parts.perm {w : World} {L M : List HA} (h : Parts w L) (p : L.Perm M) : Parts w M :=
  ⟨fun A hA => h.all A (p.mem_iff.2 hA), (foot_perm p).nodup_iff.1 h.nd⟩

/-- A stretch that began at w0 with the blocks F0 stands at w with the parts L. -/
structure SS (w0 : World) (F0 : List Nat) (w : World) (L : List HA) : Prop where
  sep : Parts w L
  sub : ∀ b ∈ foot L, b ∈ F0 ∨ w0.heap.size ≤ b
  kept : Kept (· ∈ F0) w0 w

theorem SS.init {w : World} {L : List HA} (h : Parts w L) : SS w (foot L) w L := ⟨h, fun _ hb => .inl hb, Kept.refl _ _⟩

theorem SS.get {w0 w : World} {F0 : List Nat} {L : List HA} (h : SS w0 F0 w L) {A : HA} (hA : A ∈ L) : A.P w := h.sep.all A hA

theorem SS.perm {w0 w : World} {F0 : List Nat} {L M : List HA} (h : SS w0 F0 w L) (p : L.Perm M) : SS w0 F0 w M :=
  ⟨h.sep.perm p, fun b hb => h.sub b ((foot_perm p).mem_iff.2 hb), h.kept⟩

theorem SS.left {w0 w : World} {F0 : List Nat} {L M : List HA} (h : SS w0 F0 w (L ++ M)) : SS w0 F0 w L :=
  ⟨h.sep.left, fun b hb => h.sub b (by rw [foot_append]; exact List.mem_append_left _ hb), h.kept⟩
theorem SS.right {w0 w : World} {F0 : List Nat} {L M : List HA} (h : SS w0 F0 w (L ++ M)) : SS w0 F0 w M :=
  ⟨h.sep.right, fun b hb => h.sub b (by rw [foot_append]; exact List.mem_append_right _ hb), h.kept⟩

/-- A part of it goes on by itself: the rest stays. -/
theorem SS.frame {w0 w w' : World} {F0 : List Nat} {L M L' : List HA} (h : SS w0 F0 w (L ++ M)) (k : SS w (foot L) w' L') : SS w0 F0 w' (L' ++ M) := by
  have hM : Parts w' M := h.sep.right.kept k.kept (fun b hb hx => h.sep.apart b hx hb)
  have hlt := h.sep.lt
  refine ⟨⟨fun A hA => ?_, ?_⟩, fun b hb => ?_, ?_⟩
  · rcases List.mem_append.1 hA with hA | hA
    · exact k.sep.all A hA
    · exact hM.all A hA
  · rw [foot_append, List.nodup_append]
    refine ⟨k.sep.nd, hM.nd, fun a ha b hb e => ?_⟩
    subst e
    rcases k.sub a ha with h1 | h1
    · exact h.sep.apart a h1 hb
    · have := hlt a (by rw [foot_append]; exact List.mem_append_right _ hb); omega
  · rw [foot_append] at hb
    rcases List.mem_append.1 hb with hb | hb
    · rcases k.sub b hb with h1 | h1
      · exact h.sub b (by rw [foot_append]; exact List.mem_append_left _ h1)
      · have := h.kept.size; exact .inr (by omega)
    · exact h.sub b (by rw [foot_append]; exact List.mem_append_right _ hb)
  · refine h.kept.then k.kept (fun i hi hx => ?_)
    rcases h.sub i (by rw [foot_append]; exact List.mem_append_left _ hx) with h1 | h1
    · exact h1
    · omega

/-- The same where the part stands anywhere. -/
theorem SS.step {w0 w w' : World} {F0 : List Nat} {L L' M R : List HA} (h : SS w0 F0 w M) (p : M.Perm (L ++ R)) (k : SS w (foot L) w' L') : SS w0 F0 w' (L' ++ R) := (h.perm p).frame k

/-- One part is turned into another one. -/
theorem SS.turn {w w' : World} {A A' : HA} (hk : Kept (· ∈ A.F) w w') (hp : A'.P w') (hn : ∀ b ∈ A'.F, b ∈ A.F ∨ w.heap.size ≤ b) (hd : A'.F.Nodup) : SS w (foot [A]) w' [A'] :=
  ⟨⟨fun X hX => by simp at hX; subst hX; exact hp, by simpa using hd⟩, fun b hb => by simpa using hn b (by simpa using hb), by simpa using hk⟩

theorem SS.set {w0 w w' : World} {F0 : List Nat} {L R : List HA} {A A' : HA} (h : SS w0 F0 w (L ++ A :: R)) (hk : Kept (· ∈ A.F) w w') (hp : A'.P w') (hn : ∀ b ∈ A'.F, b ∈ A.F ∨ w.heap.size ≤ b) (hd : A'.F.Nodup) :
    SS w0 F0 w' (L ++ A' :: R) := by
  have := h.step (L := [A]) (R := L ++ R) (List.perm_middle) (SS.turn hk hp hn hd)
  exact SS.perm this (List.perm_middle (l₁ := L) (l₂ := R) (a := A')).symm

/-- Blocks that nobody follows are laid; the tape is asked. -/
theorem SS.alloc {w0 w : World} {F0 : List Nat} {L : List HA} (h : SS w0 F0 w L) (o : Obj) : SS w0 F0 (w.alloc o) L :=
  ⟨h.sep.kept (S := fun _ => False) ((Kept.refl _ _).alloc o) (fun _ _ => id), h.sub, h.kept.alloc o⟩
theorem SS.drew {w0 w : World} {F0 : List Nat} {L : List HA} (h : SS w0 F0 w L) : SS w0 F0 w.drew L :=
  ⟨h.sep.kept (S := fun _ => False) ((Kept.refl _ _).drew) (fun _ _ => id), h.sub, h.kept.drew⟩
theorem SS.drewN {w0 w : World} {F0 : List Nat} {L : List HA} (h : SS w0 F0 w L) (n : Nat) : SS w0 F0 (w.drewN n) L :=
  ⟨h.sep.kept (S := fun _ => False) ((Kept.refl _ _).drewN n) (fun _ _ => id), h.sub, h.kept.drewN n⟩
/-- A stretch that turned nothing of what was there. -/
theorem SS.quiet {w0 w w' : World} {F0 : List Nat} {L : List HA} (h : SS w0 F0 w L) (k : Kept (fun _ => False) w w') : SS w0 F0 w' L :=
  ⟨h.sep.kept k (fun _ _ => id), h.sub, h.kept.then k (fun _ _ => False.elim)⟩
/-- A new part joins. -/
theorem SS.join {w0 w w' : World} {F0 : List Nat} {L M : List HA} (h : SS w0 F0 w L) (k : SS w [] w' M) : SS w0 F0 w' (M ++ L) := by
  exact SS.frame (L := []) (M := L) (L' := M) h k
theorem SS.new {w0 w : World} {F0 : List Nat} {L : List HA} (h : SS w0 F0 w L) (t : TypeId) (cs : List Value) : SS w0 F0 (w.alloc (.cells cs.toArray t)) (B w.heap.size t cs :: L) := by
  refine h.join (M := [B w.heap.size t cs]) ⟨⟨fun A hA => ?_, by simp [B]⟩, fun b hb => ?_, (Kept.refl _ _).alloc _⟩
  · simp at hA; subst hA; exact Blk.new w t cs
  · simp [B] at hb; subst hb; exact .inr (Nat.le_refl _)
/-- A cell of a block is written. -/
theorem SS.store {w0 w : World} {F0 : List Nat} {L R : List HA} {b : Nat} {t : TypeId} {cs : List Value} (h : SS w0 F0 w (L ++ B b t cs :: R)) (o : Nat) (v : Value) :
    SS w0 F0 (w.setCell ⟨b, o, none⟩ v) (L ++ B b t (cs.set o v) :: R) := by
  refine h.set (A := B b t cs) (A' := B b t (cs.set o v)) (Kept.setCell (S := (· ∈ [b])) (p := ⟨b, o, none⟩) (Kept.refl _ _) (fun _ => by simp) v) ?_ (fun x hx => .inl hx) (by simp [B])
  exact Blk.set (h.get (A := B b t cs) (by simp)) o v

/-- An owned slice, opened: its block. -/
theorem O_open {w : World} {size : Nat} {e : TypeId} {v : Value} {n : Nat} {xs : List Value} (h : (O size e v n xs).P w) (hn : 0 < n) :
    ∃ g k r, v = .slice (some ⟨g, 0, none⟩) n (n + k) ∧ r.length = k * size ∧ n + k ≤ maxLen ∧ Blk w g e (xs ++ r) := Own.open h hn

/-- An element's cell of an owned slice is written. -/
theorem SS.storeO {w0 w : World} {F0 : List Nat} {L R : List HA} {size : Nat} {e : TypeId} {g n c : Nat} {xs : List Value} (h : SS w0 F0 w (L ++ O size e (.slice (some ⟨g, 0, none⟩) n c) n xs :: R)) (o : Nat) (ho : o < xs.length) (v : Value) :
    SS w0 F0 (w.setCell ⟨g, o, none⟩ v) (L ++ O size e (.slice (some ⟨g, 0, none⟩) n c) n (xs.set o v) :: R) := by
  have h0 : Own w size e (.slice (some ⟨g, 0, none⟩) n c) n xs := h.get (A := O size e (.slice (some ⟨g, 0, none⟩) n c) n xs) (by simp)
  refine h.set (A := O size e (.slice (some ⟨g, 0, none⟩) n c) n xs) (A' := O size e (.slice (some ⟨g, 0, none⟩) n c) n (xs.set o v)) (Kept.setCell (S := (· ∈ [g])) (p := ⟨g, o, none⟩) (Kept.refl _ _) (fun _ => by simp) v) ?_ (fun x hx => .inl hx) (by simp [O])
  obtain ⟨hl, ⟨hv, _⟩ | ⟨g', k, r, hv, hr, hm, hg⟩⟩ := h0
  · simp at hv
  · simp only [Value.slice.injEq, Option.some.injEq, Addr.mk.injEq, and_true, true_and] at hv
    obtain ⟨rfl, rfl⟩ := hv
    refine ⟨by simpa using hl, .inr ⟨g, k, r, rfl, hr, hm, ?_⟩⟩
    have := hg.set o v
    rwa [List.set_append_left _ _ ho] at this
end Go.Roar
namespace Go.Roar
open Go.RowKit

theorem SS.at0 {w0 w : World} {F0 : List Nat} {R : List HA} {b : Nat} {t : TypeId} {c : Value} {r : List Value} (h : SS w0 F0 w (B b t (c :: r) :: R)) : w.cell? ⟨b, 0, none⟩ = some c :=
  Blk.cell (h.get (A := B b t (c :: r)) (by simp)) 0
theorem SS.at1 {w0 w : World} {F0 : List Nat} {R : List HA} {b : Nat} {t : TypeId} {c0 c : Value} {r : List Value} (h : SS w0 F0 w (B b t (c0 :: c :: r) :: R)) : w.cell? ⟨b, 1, none⟩ = some c :=
  Blk.cell (h.get (A := B b t (c0 :: c :: r)) (by simp)) 1
theorem SS.at2 {w0 w : World} {F0 : List Nat} {R : List HA} {b : Nat} {t : TypeId} {c0 c1 c : Value} {r : List Value} (h : SS w0 F0 w (B b t (c0 :: c1 :: c :: r) :: R)) : w.cell? ⟨b, 2, none⟩ = some c :=
  Blk.cell (h.get (A := B b t (c0 :: c1 :: c :: r)) (by simp)) 2
theorem SS.at3 {w0 w : World} {F0 : List Nat} {R : List HA} {b : Nat} {t : TypeId} {c0 c1 c2 c : Value} {r : List Value} (h : SS w0 F0 w (B b t (c0 :: c1 :: c2 :: c :: r) :: R)) : w.cell? ⟨b, 3, none⟩ = some c :=
  Blk.cell (h.get (A := B b t (c0 :: c1 :: c2 :: c :: r)) (by simp)) 3
theorem SS.free0 {w0 w : World} {F0 : List Nat} {R : List HA} {b : Nat} {t : TypeId} {cs : List Value} (h : SS w0 F0 w (B b t cs :: R)) (o : Nat) : w.frozen? ⟨b, o, none⟩ = false :=
  Blk.free (h.get (A := B b t cs) (by simp)) o

theorem Own.cellAt {w : World} {size : Nat} {e : TypeId} {g n c : Nat} {xs : List Value} (h : Own w size e (.slice (some ⟨g, 0, none⟩) n c) n xs) {o : Nat} {v : Value} (ho : xs[o]? = some v) :
    w.cell? ⟨g, o, none⟩ = some v ∧ w.frozen? ⟨g, o, none⟩ = false := by
  obtain ⟨hl, ⟨hv, _⟩ | ⟨g', k, r, hv, hr, hm, hg⟩⟩ := h
  · simp at hv
  · simp only [Value.slice.injEq, Option.some.injEq, Addr.mk.injEq, and_true, true_and] at hv
    obtain ⟨rfl, rfl⟩ := hv
    exact ⟨(hg.cell o).trans (by rw [List.getElem?_append_left (List.getElem?_eq_some_iff.1 ho).1]; exact ho), hg.free _⟩

/-- A slice with something in it lies at the head of a block. -/
theorem Own.shape {w : World} {size : Nat} {e : TypeId} {v : Value} {n : Nat} {xs : List Value} (h : Own w size e v n xs) (hn : 0 < n) : ∃ g c, v = .slice (some ⟨g, 0, none⟩) n c ∧ n ≤ c ∧ c ≤ maxLen := by
  obtain ⟨g, k, r, rfl, _, hm, _⟩ := h.open hn
  exact ⟨g, n + k, rfl, Nat.le_add_right _ _, hm⟩

theorem new_one (w : World) (t : TypeId) (x : Value) (s : Nat) (hs : s = w.heap.size) : ∀ (j : Nat) (u : Value), [x][j]? = some u → (w.alloc (.cells #[x] t)).cell? ((⟨s, 0, none⟩ : Addr).add j) = some u := by
  subst hs
  intro j u h
  match j, h with
  | 0, h => exact (Blk.new w t [x]).cell 0 |>.trans h
theorem one_one {x : Value} (h : x.oneCell' = true) : ∀ u ∈ [x], u.oneCell' = true := by
  intro u hu; simp at hu; subst hu; exact h

theorem wpList_append_ss {P : Program} {w : World} {ops : Array Oper} {rest : List Oper} {o : Oper} {a : Act} {Q : Exit → Act → World → Prop} (hgd : o.guard = none) (s x : Operand) (t : TypeId)
    (ho : o.op = .call { callee := .builtin .append, args := #[s, x], argTypes := #[t, t] })
    (e : TypeId) (i : TypeInfo) (z : Value) (size bytes : Nat) (ht : P.underlying t = some (.slice e)) (hi : P.info? e = some i) (hz : i.zero = some z)
    (hsize : i.size = size) (hby : i.bytes = bytes) (hzs : z.cells.size = size) (hsz : 0 < size)
    (w0 : World) (F0 : List Nat) (L R : List HA) (v : Value) (n : Nat) (xs : List Value) (hs : a.eval s = v) (hS : SS w0 F0 w (L ++ O size e v n xs :: R))
    (ad : Addr) (m c : Nat) (news : List Value) (hx : a.eval x = .slice (some ad) m c) (hl : news.length = m * size) (hnews : ∀ j u, news[j]? = some u → w.cell? (ad.add j) = some u) (h1 : ∀ u ∈ news, u.oneCell' = true)
    (h63 : n + m ≤ maxLen) (hbytes : (n + m) * bytes ≤ 140737488355328)
    (h : ∀ v' w', SS w0 F0 w' (L ++ O size e v' (n + m) (xs ++ news) :: R) → wpList P ops Q rest (a.put o.dst v') w') : wpList P ops Q (o :: rest) a w := by
  refine wpList_append_mine hgd s x t ho e i z size bytes ht hi hz hsize hby hzs hsz v n xs hs (hS.get (A := O size e v n xs) (by simp)) ad m c news hx hl hnews h1 h63 hbytes ?_
  intro v' w' ho' hk hn
  refine h v' w' (hS.set (A := O size e v n xs) (A' := O size e v' (n + m) (xs ++ news)) hk ho' hn ?_)
  show (blkOf v').Nodup
  unfold blkOf
  cases v'.ownBlock <;> simp

theorem wpList_copy_ss {P : Program} {w : World} {ops : Array Oper} {rest : List Oper} {o : Oper} {a : Act} {Q : Exit → Act → World → Prop} (hgd : o.guard = none) (d s : Operand) (dT sT : TypeId)
    (ho : o.op = .call { callee := .builtin .copy, args := #[d, s], argTypes := #[dT, sT] }) (elem : TypeId) (size : Nat) (hu : P.underlying dT = some (.slice elem)) (hsz : (P.info? elem).map (·.size) = some size)
    (w0 : World) (F0 : List Nat) (L R : List HA) (g N C : Nat) (xs : List Value) (hS : SS w0 F0 w (L ++ O size elem (.slice (some ⟨g, 0, none⟩) N C) N xs :: R))
    (dp sp : Option Addr) (dLen dCap sLen sCap : Nat) (hd : a.eval d = .slice dp dLen dCap) (hs : a.eval s = .slice sp sLen sCap)
    (off n : Nat) (cs : List Value) (hn : n = Nat.min sLen dLen) (hl : cs.length = n * size)
    (hpos : 0 < n → dp = some ⟨g, off, none⟩ ∧ ∃ ad, sp = some ad ∧ ∀ j v, cs[j]? = some v → w.cell? (ad.add j) = some v)
    (hfit : off + cs.length ≤ xs.length) (h1 : ∀ v ∈ cs, v.oneCell' = true)
    (h : ∀ w', SS w0 F0 w' (L ++ O size elem (.slice (some ⟨g, 0, none⟩) N C) N (splice xs off cs) :: R) → wpList P ops Q rest (a.put o.dst (goInt n)) w') :
    wpList P ops Q (o :: rest) a w := by
  have h0 : Own w size elem (.slice (some ⟨g, 0, none⟩) N C) N xs := hS.get (A := O size elem (.slice (some ⟨g, 0, none⟩) N C) N xs) (by simp)
  obtain ⟨hxl, ⟨hv, _⟩ | ⟨g', k, r, hv, hr, hm, hg⟩⟩ := h0
  · simp at hv
  · simp only [Value.slice.injEq, Option.some.injEq, Addr.mk.injEq, and_true, true_and] at hv
    obtain ⟨rfl, rfl⟩ := hv
    refine wpList_copy_mine hgd d s dT sT ho elem size hu hsz dp sp dLen dCap sLen sCap hd hs g off n (xs ++ r) elem hg cs hn hl hpos (by simp; omega) h1 ?_
    intro w' hb hk
    refine h w' (hS.set (A := O size elem (.slice (some ⟨g, 0, none⟩) N (N + k)) N xs) (A' := O size elem (.slice (some ⟨g, 0, none⟩) N (N + k)) N (splice xs off cs)) (hk.mono (by intro x _ hx; subst hx; simp [O])) ?_ (fun b hb => .inl hb) (by simp [O]))
    refine ⟨by rw [length_splice _ _ _ hfit]; exact hxl, .inr ⟨g, k, r, rfl, hr, hm, ?_⟩⟩
    have e : splice (xs ++ r) off cs = splice xs off cs ++ r := by
      unfold splice
      rw [List.take_append_of_le_length (by omega), List.drop_append_of_le_length hfit]
      simp
    rw [← e]; exact hb
/-- The cells that a copy reads out of an owned slice, cut from place l on. -/
theorem Own.src {w : World} {size : Nat} {e : TypeId} {g N C : Nat} {xs : List Value} (h : Own w size e (.slice (some ⟨g, 0, none⟩) N C) N xs) (l sz : Nat) (hl : l < C) (cs : List Value)
    (hc : ∀ (j : Nat) (v : Value), cs[j]? = some v → xs[l * sz + j]? = some v) : ∀ (j : Nat) (v : Value), cs[j]? = some v → w.cell? ((tlA g 0 l C sz).add j) = some v := by
  intro j v hj
  have h1 := (h.cellAt (hc j v hj)).1
  rw [tlA_of hl, Nat.zero_add]
  have e : (⟨g, l * sz, none⟩ : Addr).add j = ⟨g, l * sz + j, none⟩ := by unfold Addr.add; split <;> simp_all
  rw [e]; exact h1

theorem drop_src {L : List Value} {i : Nat} (z : List Value) : ∀ (j : Nat) (v : Value), (L.drop i)[j]? = some v → (L ++ z)[i * 1 + j]? = some v := by
  intro j v h
  rw [List.getElem?_drop] at h
  rw [Nat.mul_one, List.getElem?_append_left (List.getElem?_eq_some_iff.1 h).1]; exact h

theorem u16s_one (l : List Nat) : ∀ v ∈ u16s l, v.oneCell' = true := by
  intro v hv; obtain ⟨n, _, rfl⟩ := List.mem_map.1 hv; rfl

theorem tl_some {g l cap sz : Nat} (h : l < cap) : some (tlA g 0 l cap sz) = some (⟨g, l * sz, none⟩ : Addr) := by rw [tlA_of h, Nat.zero_add]
theorem tl_some1 {g l cap : Nat} (h : l < cap) : some (tlA g 0 l cap 1) = some (⟨g, l, none⟩ : Addr) := by rw [tl_some h, Nat.mul_one]
theorem SS.ne {w0 w : World} {F0 : List Nat} {L : List HA} (h : SS w0 F0 w L) : (foot L).Nodup := h.sep.nd

/-- 'make([]T, n)', 'make([]T, n, n)'. -/
theorem wpList_make_ss {P : Program} {w : World} {ops : Array Oper} {rest : List Oper} {o : Oper} {a : Act} {Q : Exit → Act → World → Prop}
    (hg : o.guard = none) (l c : Operand) (t : TypeId) (hop : o.op = Op.makeSlice t l c)
    (e : TypeId) (i : TypeInfo) (z : Value) (size : Nat) (h1 : P.underlying t = some (.slice e)) (h2 : P.info? e = some i) (h3 : i.zero = some z) (h4 : i.size = size)
    (w0 : World) (F0 : List Nat) (L : List HA) (hS : SS w0 F0 w L)
    (kl kc : IntKind) (X Y : Int) (n : Nat) (hl : a.eval l = .int kl X) (hc : a.eval c = .int kc Y) (hL : X = (n : Int)) (hC : Y = (n : Int)) (b2 : i.bytes * n ≤ 281474976710656) (b3 : n ≤ maxLen)
    (hK : ∀ g w', SS w0 F0 w' (O size e (.slice (some ⟨g, 0, none⟩) n n) n (madeCells z.cells (n * size)).toList :: L) → wpList P ops Q rest (a.put o.dst (.slice (some ⟨g, 0, none⟩) n n)) w') :
    wpList P ops Q (o :: rest) a w := by
  refine wpList_make_full w hg l c t hop w.heap.size e i z size h1 h2 h3 h4 kl kc X Y n hl hc hL hC b2 b3 (Nat.le_refl _) ?_
  intro w' hown hgr
  refine hK _ w' (hS.join (M := [O size e (.slice (some ⟨w.heap.size, 0, none⟩) n n) n (madeCells z.cells (n * size)).toList]) ⟨⟨fun A hA => ?_, by simp [O]⟩, fun b hb => ?_, (Kept.refl _ _).grown hgr (by intro k hk; cases hk)⟩)
  · simp only [List.mem_singleton] at hA; subst hA; exact Own.ofRow hown
  · simp [O] at hb; subst hb; exact .inr (Nat.le_refl _)

/-- A part that nobody asks for any more is let go. -/
theorem SS.drop {w0 w : World} {F0 : List Nat} {L R : List HA} {A : HA} (h : SS w0 F0 w (L ++ A :: R)) : SS w0 F0 w (L ++ R) :=
  (h.perm (M := [A] ++ (L ++ R)) List.perm_middle).right
theorem SS.swap {w0 w : World} {F0 : List Nat} {R : List HA} {A A' : HA} (h : SS w0 F0 w (A :: A' :: R)) : SS w0 F0 w (A' :: A :: R) := h.perm (List.Perm.swap _ _ _)

theorem run_slice_to {P : Program} (w : World) {t e : TypeId} {sz : Nat} (ht : P.underlying t = some (.slice e)) (hs : (P.info? e).map (·.size) = some sz) (ad : Option Addr) (len cap l : Nat) (k : IntKind) (j : Int) (hj : j = (l : Int)) (hl : l ≤ cap) :
    (Instr.slice t (.slice ad len cap) none (some (.int k j)) none).run P w = .ok (.slice ad l cap) w := by
  subst hj
  cases hq : P.info? e with
  | none => simp [hq] at hs
  | some i =>
    simp only [Instr.slice, Sem.run_bind, run_underlying ht, Result.andThen_ok, Instr.sliceBounds, Instr.sliceBound]
    simp [sizeOf, typeInfo, hq, hl, asIntOf, go_sem]

theorem Own.caps {w : World} {size : Nat} {e : TypeId} {g n c : Nat} {xs : List Value} (h : Own w size e (.slice (some ⟨g, 0, none⟩) n c) n xs) : n ≤ c ∧ c ≤ maxLen := by
  obtain ⟨_, ⟨hv, _⟩ | ⟨g', k, r, hv, _, hm, _⟩⟩ := h
  · simp at hv
  · simp only [Value.slice.injEq, Option.some.injEq, Addr.mk.injEq, and_true, true_and] at hv
    obtain ⟨rfl, rfl⟩ := hv
    exact ⟨Nat.le_add_right _ _, hm⟩

theorem Own.src0 {w : World} {size : Nat} {e : TypeId} {g N C : Nat} {xs : List Value} (h : Own w size e (.slice (some ⟨g, 0, none⟩) N C) N xs) (cs : List Value)
    (hc : ∀ (j : Nat) (v : Value), cs[j]? = some v → xs[j]? = some v) : ∀ (j : Nat) (v : Value), cs[j]? = some v → w.cell? ((⟨g, 0, none⟩ : Addr).add j) = some v := by
  intro j v hj
  have h1 := (h.cellAt (hc j v hj)).1
  have e : (⟨g, 0, none⟩ : Addr).add j = ⟨g, j, none⟩ := by unfold Addr.add; split <;> simp_all
  rw [e]; exact h1
theorem take_src {L : List Value} {i : Nat} : ∀ (j : Nat) (v : Value), (L.take i)[j]? = some v → L[j]? = some v := by
  intro j v h
  rw [List.getElem?_take] at h
  split at h
  · exact h
  · cases h
theorem drop_src0 {L : List Value} {i : Nat} : ∀ (j : Nat) (v : Value), (L.drop i)[j]? = some v → L[i * 1 + j]? = some v := by
  intro j v h
  rw [List.getElem?_drop] at h
  rw [Nat.mul_one]; exact h
end Go.Roar

namespace Go.Roar
open Go.RowKit

/-- The cells of intervals, each told by its first and its last number. -/
def ivs (rs : List (Nat × Nat)) : List Value := rs.flatMap fun r => [.int .u16 ((r.1 : Nat) : Int), .int .u16 ((r.2 - r.1 : Nat) : Int)]

@[simp] theorem ivs_length (rs : List (Nat × Nat)) : (ivs rs).length = rs.length * 2 := by
  induction rs with
  | nil => rfl
  | cons r rs ih => simp [ivs] at *; omega

/-- An array container: its block, its numbers. -/
def AC (p : Nat) (v : Value) (l : List Nat) : List HA := [B p 106 [v], O 1 57 v l.length (u16s l)]
/-- A bitmap container: its block (the cardinality and the words), its words. -/
def BC (p : Nat) (n : Nat) (v : Value) (ws : List Nat) : List HA := [B p 122 [.int .i64 (n : Int), v], O 1 23 v 1024 (u64s ws)]
/-- A run container: its block, its intervals. -/
def RC (p : Nat) (v : Value) (rs : List (Nat × Nat)) : List HA := [B p 112 [v], O 2 114 v rs.length (ivs rs)]

def inList (l : List Nat) (x : Nat) : Bool := decide (x ∈ l)
def inWords (ws : List Nat) (x : Nat) : Bool := (ws.getD (x / 64) 0).testBit (x % 64)
def inRuns (rs : List (Nat × Nat)) (x : Nat) : Bool := rs.any fun r => decide (r.1 ≤ x) && decide (x ≤ r.2)

/-- Intervals as a run container has them: rising, none empty, a number missing between each two. -/
abbrev RunsOK (rs : List (Nat × Nat)) : Prop := RgOK 65536 rs

theorem Parts.same {w w' : World} {L : List HA} (h : Parts w L) (hb : ∀ b ∈ foot L, w'.heap[b]? = w.heap[b]?) : Parts w' L :=
  ⟨fun A hA => A.loc w w' (fun b hx => hb b (foot_mem hA hx)) (h.all A hA), h.nd⟩

/-- An owned slice, cut anew from its beginning. -/
theorem SS.reslice {w0 w : World} {F0 : List Nat} {L R : List HA} {size : Nat} {e : TypeId} {g n c m : Nat} {xs : List Value} (h : SS w0 F0 w (L ++ O size e (.slice (some ⟨g, 0, none⟩) n c) n xs :: R)) (hm : m ≤ c) :
    ∃ ys, ys.length = m * size ∧ (n ≤ m → ys.take (n * size) = xs) ∧ (m ≤ n → ys = xs.take (m * size)) ∧ SS w0 F0 w (L ++ O size e (.slice (some ⟨g, 0, none⟩) m c) m ys :: R) := by
  have h0 : Own w size e (.slice (some ⟨g, 0, none⟩) n c) n xs := h.get (A := O size e (.slice (some ⟨g, 0, none⟩) n c) n xs) (by simp)
  obtain ⟨hl, ⟨hv, _⟩ | ⟨g', k, r, hv, hr, hmx, hg⟩⟩ := h0
  · simp at hv
  · simp only [Value.slice.injEq, Option.some.injEq, Addr.mk.injEq, and_true, true_and] at hv
    obtain ⟨rfl, rfl⟩ := hv
    have hms : m * size ≤ (n + k) * size := Nat.mul_le_mul_right _ hm
    have htot : (xs ++ r).length = (n + k) * size := by simp [hl, hr, Nat.add_mul]
    have hlen : ((xs ++ r).take (m * size)).length = m * size := by rw [List.length_take, htot]; omega
    refine ⟨(xs ++ r).take (m * size), hlen, fun hnm => ?_, fun hmn => ?_, ?_⟩
    · have : n * size ≤ m * size := Nat.mul_le_mul_right _ hnm
      rw [List.take_take, Nat.min_eq_left this, ← hl, List.take_left]
    · have : m * size ≤ n * size := Nat.mul_le_mul_right _ hmn
      rw [List.take_append_of_le_length (by omega)]
    · refine h.set (A := O size e (.slice (some ⟨g, 0, none⟩) n (n + k)) n xs) (A' := O size e (.slice (some ⟨g, 0, none⟩) m (n + k)) m ((xs ++ r).take (m * size))) (Kept.refl _ _) ?_ (fun b hb => .inl hb) (by simp [O])
      refine ⟨hlen, .inr ⟨g, n + k - m, (xs ++ r).drop (m * size), by congr 1; omega, ?_, by omega, ?_⟩⟩
      · rw [List.length_drop, htot, Nat.sub_mul]
      · rw [List.take_append_drop]; exact hg
end Go.Roar
