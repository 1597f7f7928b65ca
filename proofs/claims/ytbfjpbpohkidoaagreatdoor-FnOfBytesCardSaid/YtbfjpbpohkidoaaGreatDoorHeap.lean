/-
  Plain laws on the model's memory, used by every contract of this claim: a block known whole ('Blk'), and what a stretch of a run leaves as it was ('Kept').
-/
import Derived.WalkKit
import Derived.Lib.Hide
import Derived.Deep.Draws
namespace Go.Roar
open Go.RowKit

/-- Block b holds just the cells cs, none of them frozen. -/
def Blk (w : World) (b : Nat) (t : TypeId) (cs : List Value) : Prop := w.heap[b]? = some (.cells cs.toArray t (0, 0))

/-- From w to w' only blocks of S (and new ones) have been written. -/
structure Kept (S : Nat → Prop) (w w' : World) : Prop where
  os : w'.os = w.os
  tape : w'.tape = w.tape
  output : w'.output = w.output
  size : w.heap.size ≤ w'.heap.size
  block : ∀ k, k < w.heap.size → ¬ S k → w'.heap[k]? = w.heap[k]?

theorem Blk.lt {w : World} {b : Nat} {t : TypeId} {cs : List Value} (h : Blk w b t cs) : b < w.heap.size :=
  (Array.getElem?_eq_some_iff.1 h).1

theorem Blk.cell {w : World} {b : Nat} {t : TypeId} {cs : List Value} (h : Blk w b t cs) (o : Nat) : w.cell? ⟨b, o, none⟩ = cs[o]? := by
  unfold Blk at h; simp [World.cell?, h]

theorem Blk.free {w : World} {b : Nat} {t : TypeId} {cs : List Value} (h : Blk w b t cs) (o : Nat) : w.frozen? ⟨b, o, none⟩ = false := by
  unfold Blk at h; simp [World.frozen?, h]

theorem Blk.set {w : World} {b : Nat} {t : TypeId} {cs : List Value} (h : Blk w b t cs) (o : Nat) (v : Value) : Blk (w.setCell ⟨b, o, none⟩ v) b t (cs.set o v) := by
  unfold Blk at *
  simp [World.setCell, Array.getElem?_modify, h]

theorem Blk.set_ne {w : World} {b b' : Nat} {t : TypeId} {cs : List Value} (h : Blk w b t cs) (hb : b ≠ b') (o : Nat) (v : Value) : Blk (w.setCell ⟨b', o, none⟩ v) b t cs := by
  unfold Blk at *
  rw [Below.heap_setCell _ _ _ _ hb]; exact h

theorem Blk.alloc {w : World} {b : Nat} {t : TypeId} {cs : List Value} (h : Blk w b t cs) (o : Obj) : Blk (w.alloc o) b t cs := by
  have := h.lt
  unfold Blk at *
  rw [Below.heap_alloc _ _ _ this]; exact h

theorem Blk.new (w : World) (t : TypeId) (cs : List Value) : Blk (w.alloc (.cells cs.toArray t)) w.heap.size t cs := by
  unfold Blk
  show (w.heap.push _)[w.heap.size]? = _
  simp

theorem Blk.drew {w : World} {b : Nat} {t : TypeId} {cs : List Value} (h : Blk w b t cs) : Blk w.drew b t cs := h
theorem Blk.drewN {w : World} {b : Nat} {t : TypeId} {cs : List Value} (h : Blk w b t cs) (n : Nat) : Blk (w.drewN n) b t cs := h

theorem Blk.kept {S : Nat → Prop} {w w' : World} {b : Nat} {t : TypeId} {cs : List Value} (h : Blk w b t cs) (k : Kept S w w') (hb : ¬ S b) : Blk w' b t cs := by
  have := h.lt
  unfold Blk at *
  rw [k.block b this hb]; exact h

theorem Kept.refl (S : Nat → Prop) (w : World) : Kept S w w := ⟨rfl, rfl, rfl, Nat.le_refl _, fun _ _ _ => rfl⟩
theorem Kept.trans {S : Nat → Prop} {a b c : World} (h : Kept S a b) (k : Kept S b c) : Kept S a c :=
  ⟨k.os.trans h.os, k.tape.trans h.tape, k.output.trans h.output, Nat.le_trans h.size k.size, fun i hi hs => (k.block i (by have := h.size; omega) hs).trans (h.block i hi hs)⟩
theorem Kept.mono {S S' : Nat → Prop} {w w' : World} (h : Kept S w w') (hs : ∀ k, k < w.heap.size → S k → S' k) : Kept S' w w' :=
  ⟨h.os, h.tape, h.output, h.size, fun k hk hn => h.block k hk (fun x => hn (hs k hk x))⟩
/-- What came behind may write whatever it likes of what is new. -/
theorem Kept.then {S S' : Nat → Prop} {a b c : World} (h : Kept S a b) (k : Kept S' b c) (hs : ∀ k, k < a.heap.size → S' k → S k) : Kept S a c :=
  ⟨k.os.trans h.os, k.tape.trans h.tape, k.output.trans h.output, Nat.le_trans h.size k.size,
   fun i hi hn => (k.block i (by have := h.size; omega) (fun x => hn (hs i hi x))).trans (h.block i hi hn)⟩
theorem Kept.alloc {S : Nat → Prop} {a w : World} (h : Kept S a w) (o : Obj) : Kept S a (w.alloc o) :=
  h.trans ⟨rfl, rfl, rfl, by simp, fun k hk _ => Below.heap_alloc _ _ _ hk⟩
theorem Kept.setCell {S : Nat → Prop} {a w : World} (h : Kept S a w) {p : Addr} (hp : p.block < a.heap.size → S p.block) (u : Value) : Kept S a (w.setCell p u) :=
  ⟨h.os, h.tape, h.output, by have := h.size; simp only [World.size_setCell]; omega, fun k hk hn => by
    rw [Below.heap_setCell _ _ _ _ (fun e => hn (by subst e; exact hp hk))]; exact h.block k hk hn⟩
theorem Kept.drew {S : Nat → Prop} {a w : World} (h : Kept S a w) : Kept S a w.drew := ⟨h.os, h.tape, h.output, h.size, h.block⟩
theorem Kept.drewN {S : Nat → Prop} {a w : World} (h : Kept S a w) (n : Nat) : Kept S a (w.drewN n) := ⟨h.os, h.tape, h.output, h.size, h.block⟩
theorem Kept.grown {S : Nat → Prop} {a w w' : World} {row : Option Nat} (h : Kept S a w) (hg : w.grownBy w' row) (hr : ∀ k, row = some k → k < a.heap.size → S k) : Kept S a w' :=
  ⟨hg.os.trans h.os, hg.tape.trans h.tape, hg.output.trans h.output, Nat.le_trans h.size hg.size,
   fun k hk hn => (hg.block k (by have := h.size; omega) (fun e => hn (hr k e.symm hk))).trans (h.block k hk hn)⟩
theorem Kept.below {w w' : World} {B : Nat} (h : Kept (fun k => B ≤ k) w w') : Below B w w' ∨ w.heap.size < B := by
  rcases Nat.lt_or_ge w.heap.size B with hB | hB
  · exact .inr hB
  · exact .inl ⟨h.os, h.tape, h.output, h.size, fun k hk => h.block k (by omega) (by simpa using hk)⟩
theorem Kept.ofBelow {w w' : World} {B : Nat} (h : Below B w w') : Kept (fun k => B ≤ k) w w' :=
  ⟨h.os, h.tape, h.output, h.size, fun k _ hn => h.block k (by omega)⟩
theorem Kept.cell {S : Nat → Prop} {w w' : World} (h : Kept S w w') {p : Addr} (hp : ¬ S p.block) (hl : p.block < w.heap.size) : w'.cell? p = w.cell? p :=
  World.cell?_of_block (w := w) (h.block p.block hl hp)

end Go.Roar
namespace Go.Roar
open Go.RowKit

/-- The slice value v, of n elements of 'size' cells each, owns a block of its own, whose first cells are xs; or it is nil and empty. -/
def Own (w : World) (size : Nat) (e : TypeId) (v : Value) (n : Nat) (xs : List Value) : Prop :=
  xs.length = n * size ∧ ((v = .slice none 0 0 ∧ n = 0) ∨
    ∃ g k r, v = .slice (some ⟨g, 0, none⟩) n (n + k) ∧ r.length = k * size ∧ n + k ≤ maxLen ∧ Blk w g e (xs ++ r))

theorem Own.toRow {w : World} {size : Nat} {e : TypeId} {v : Value} {n : Nat} {xs : List Value} (h : Own w size e v n xs) : w.ownsRow 0 e size v n xs := by
  obtain ⟨hl, h⟩ := h
  refine ⟨hl, ?_⟩
  rcases h with h | ⟨g, k, r, hv, hr, hm, hb⟩
  · exact .inl h
  · refine .inr ⟨g, n + k, (xs ++ r).toArray, hv, Nat.zero_le _, hb, Nat.le_add_right _ _, hm, ?_, ?_⟩
    · simp [hl, hr, Nat.add_mul]
    · simp [← hl]

theorem Own.ofRow {w : World} {base size : Nat} {e : TypeId} {v : Value} {n : Nat} {xs : List Value} (h : w.ownsRow base e size v n xs) : Own w size e v n xs := by
  obtain ⟨hl, h⟩ := h
  refine ⟨hl, ?_⟩
  rcases h with h | ⟨g, cap, cur, hv, _, hb, hn, hm, hs, ht⟩
  · exact .inl h
  · refine .inr ⟨g, cap - n, cur.toList.drop (n * size), by rw [hv]; congr 1; omega, ?_, by omega, ?_⟩
    · simp [hs, Nat.sub_mul]
    · unfold Blk
      rw [← ht, List.take_append_drop]
      simpa using hb

/-- The one block that a slice lies in. -/
def blkOf (v : Value) : List Nat := v.ownBlock.toList

@[simp] theorem blkOf_nil : blkOf (.slice none 0 0) = [] := rfl
@[simp] theorem blkOf_some (g o n c : Nat) : blkOf (.slice (some ⟨g, o, none⟩) n c) = [g] := rfl

theorem Own.lt {w : World} {size : Nat} {e : TypeId} {v : Value} {n : Nat} {xs : List Value} (h : Own w size e v n xs) : ∀ b ∈ blkOf v, b < w.heap.size := by
  obtain ⟨_, ⟨rfl, _⟩ | ⟨g, k, r, rfl, _, _, hb⟩⟩ := h
  · simp
  · simpa using hb.lt

theorem Own.kept {S : Nat → Prop} {w w' : World} {size : Nat} {e : TypeId} {v : Value} {n : Nat} {xs : List Value} (h : Own w size e v n xs) (k : Kept S w w') (hb : ∀ b ∈ blkOf v, ¬ S b) : Own w' size e v n xs := by
  obtain ⟨hl, ⟨rfl, h0⟩ | ⟨g, j, r, rfl, hr, hm, hg⟩⟩ := h
  · exact ⟨hl, .inl ⟨rfl, h0⟩⟩
  · exact ⟨hl, .inr ⟨g, j, r, rfl, hr, hm, hg.kept k (hb g (by simp))⟩⟩

theorem Own.len {w : World} {size : Nat} {e : TypeId} {v : Value} {n : Nat} {xs : List Value} (h : Own w size e v n xs) : xs.length = n * size := h.1

theorem Own.nil (w : World) (size : Nat) (e : TypeId) : Own w size e (.slice none 0 0) 0 [] := ⟨by simp, .inl ⟨rfl, rfl⟩⟩

theorem Own.alloc {w : World} {size : Nat} {e : TypeId} {v : Value} {n : Nat} {xs : List Value} (h : Own w size e v n xs) (o : Obj) : Own (w.alloc o) size e v n xs :=
  h.kept (S := fun _ => False) ((Kept.refl _ _).alloc o) (fun _ _ => id)

/-- Cell j of a slice that is owned. -/
theorem Own.open {w : World} {size : Nat} {e : TypeId} {v : Value} {n : Nat} {xs : List Value} (h : Own w size e v n xs) (hn : 0 < n) :
    ∃ g k r, v = .slice (some ⟨g, 0, none⟩) n (n + k) ∧ r.length = k * size ∧ n + k ≤ maxLen ∧ Blk w g e (xs ++ r) := by
  rcases h.2 with ⟨_, h0⟩ | h
  · omega
  · exact h
end Go.Roar
