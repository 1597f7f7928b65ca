/-
  impl.told: the ranges that a set's numbers are told in.
-/
import Derived.Test.YtjjijipfhnoomaaGreatDoorKIn
import Derived.Test.YtjjijipfhnoomaaGreatDoorJQpl
import Derived.Maps.AppendAt
namespace Go.Roar
open Go.RowKit Go.Proofs

def rgCells (rs : List (Nat × Nat)) : List Value := rs.flatMap fun r => [.int .u32 ((r.1 : Nat) : Int), .int .u32 ((r.2 : Nat) : Int)]
theorem rgCells_append (a b : List (Nat × Nat)) : rgCells (a ++ b) = rgCells a ++ rgCells b := by simp [rgCells]
theorem rgCells_length (a : List (Nat × Nat)) : (rgCells a).length = a.length * 2 := by
  induction a with
  | nil => rfl
  | cons r l ih => rw [show r :: l = [r] ++ l from rfl, rgCells_append, List.length_append, ih]; simp [rgCells]; omega

theorem rgCells_inj : ∀ (a b : List (Nat × Nat)), rgCells a = rgCells b → a = b
  | [], [], _ => rfl
  | [], r :: l, h => by simp [rgCells] at h
  | r :: l, [], h => by simp [rgCells] at h
  | (r1, r2) :: l, (q1, q2) :: m, h => by
    simp only [rgCells, List.flatMap_cons, List.cons_append, List.nil_append, List.cons.injEq, Value.int.injEq, true_and] at h
    have e := rgCells_inj l m h.2.2
    have h1 : r1 = q1 := by omega
    have h2 : r2 = q2 := by omega
    rw [e, h1, h2]
theorem Own.sameAs {w : World} {size : Nat} {e : TypeId} {v : Value} {n m : Nat} {xs ys : List Value} (h : Own w size e v n xs) (k : Own w size e v m ys) : xs = ys := by
  obtain ⟨hl, h⟩ := h
  obtain ⟨kl, k⟩ := k
  rcases h with ⟨rfl, rfl⟩ | ⟨g, i, r, rfl, hr, hm, hb⟩
  · rcases k with ⟨_, rfl⟩ | ⟨g, i, r, hv, _⟩
    · rw [Nat.zero_mul] at hl kl
      rw [List.eq_nil_of_length_eq_zero hl, List.eq_nil_of_length_eq_zero kl]
    · simp at hv
  · rcases k with ⟨hv, _⟩ | ⟨g', i', r', hv, hr', hm', hb'⟩
    · simp at hv
    · simp only [Value.slice.injEq, Option.some.injEq, Addr.mk.injEq, and_true] at hv
      obtain ⟨rfl, rfl, _⟩ := hv
      unfold Blk at hb hb'
      rw [hb] at hb'
      simp only [Option.some.injEq, Obj.cells.injEq, and_true] at hb'
      have e : xs ++ r = ys ++ r' := congrArg Array.toList hb'
      exact (List.append_inj e (by omega)).1
theorem Own.form {w : World} {size : Nat} {e : TypeId} {v : Value} {n : Nat} {xs : List Value} (h : Own w size e v n xs) : ∃ A c, v = .slice A n c := by
  rcases h.2 with ⟨rfl, rfl⟩ | ⟨g, k, r, rfl, _⟩
  · exact ⟨_, _, rfl⟩
  · exact ⟨_, _, rfl⟩
/-- How many numbers the ranges tell that lie at v. -/
noncomputable def cnt (v : Value) (w : World) : Nat := open Classical in if h : ∃ out : List (Nat × Nat), Own w 2 43 v out.length (rgCells out) then rgCard h.choose else 0
theorem cnt_of {v : Value} {w : World} {out : List (Nat × Nat)} (h : Own w 2 43 v out.length (rgCells out)) : cnt v w = rgCard out := by
  unfold cnt
  have h' : ∃ out : List (Nat × Nat), Own w 2 43 v out.length (rgCells out) := ⟨out, h⟩
  rw [dif_pos h']
  rw [rgCells_inj _ _ (h'.choose_spec.sameAs h)]

/-- Ranges that are told: none empty, all below what is left. -/
def Fit (out : List (Nat × Nat)) (l : List Nat) : Prop := ∀ r ∈ out, r.1 ≤ r.2 ∧ ∀ y ∈ l, r.2 < y
theorem tell_cases (out : List (Nat × Nat)) (x : Nat) : (∃ l a, out = l ++ [(a, x - 1)] ∧ 0 < x ∧ tell out x = l ++ [(a, x)]) ∨ (tell out x = out ++ [(x, x)] ∧ ∀ l a b, out = l ++ [(a, b)] → b + 1 ≠ x) := by
  rcases List.eq_nil_or_concat out with rfl | ⟨m, ⟨a, b⟩, rfl⟩
  · exact .inr ⟨rfl, by simp⟩
  · rw [List.concat_eq_append]
    by_cases h : b + 1 = x
    · subst h; exact .inl ⟨m, a, by simp, by omega, tell_on m a b⟩
    · refine .inr ⟨tell_new m a b x h, fun l a' b' e => ?_⟩
      obtain ⟨_, e2⟩ := List.append_inj' e rfl
      simp at e2
      omega
theorem Fit.tell {out : List (Nat × Nat)} {x : Nat} {l : List Nat} (h : Fit out (x :: l)) (hs : (x :: l).Pairwise (· < ·)) : Fit (tell out x) l ∧ rgCard (tell out x) = rgCard out + 1 := by
  obtain ⟨h1, h2⟩ := List.pairwise_cons.1 hs
  rcases tell_cases out x with ⟨m, a, rfl, h0, e⟩ | ⟨e, _⟩
  · rw [e]
    have ha := (h (a, x - 1) (by simp)).1
    dsimp only at ha
    refine ⟨fun r hr => ?_, ?_⟩
    · rcases List.mem_append.1 hr with hr | hr
      · have := h r (by simp [hr])
        exact ⟨this.1, fun y hy => this.2 y (List.mem_cons_of_mem _ hy)⟩
      · simp at hr; subst hr; exact ⟨by dsimp only; omega, fun y hy => h1 y hy⟩
    · rw [rgCard_append, rgCard_append, rgCard_cons, rgCard_cons]; dsimp only; omega
  · rw [e]
    refine ⟨fun r hr => ?_, ?_⟩
    · rcases List.mem_append.1 hr with hr | hr
      · have := h r hr
        exact ⟨this.1, fun y hy => this.2 y (List.mem_cons_of_mem _ hy)⟩
      · simp at hr; subst hr; exact ⟨Nat.le_refl _, fun y hy => h1 y hy⟩
    · rw [rgCard_append, rgCard_cons]; simp [rgCard]

/-- At the head of the loop: l left, the ranges 'out' told. -/
structure TInv (w0 w : World) (I p : Nat) (ps : List (Nat × List Nat)) (v : Value) (l : List Nat) (out : List (Nat × Nat)) : Prop where
  own : Own w 2 43 v out.length (rgCells out)
  it : ∃ cs, It w w0.heap.size I p ps cs l
  whole : Whole w w0.heap.size p ps
  kept : Mild w0 w
  off : ∀ b ∈ blkOf v, w0.heap.size ≤ b ∧ b ≠ I
  fit : Fit out l
  card : rgCard out + l.length = (nums ps).length
end Go.Roar
namespace Go.Proofs
open Go.RowKit Go.Roar

theorem cell_two_new (w : World) (x y : Value) (t : TypeId) : ∀ j u, [x, y][j]? = some u → (w.alloc (.cells #[x, y] t)).cell? ((⟨w.heap.size, 0, none⟩ : Addr).add j) = some u := by
  intro j u hj
  match j, hj with
  | 0, hj => simp at hj; subst hj; simp [Addr.add]
  | 1, hj => simp at hj; subst hj; simp [Addr.add]
  | j + 2, hj => simp at hj
theorem infoSpan : (Tryz.prog.info? 43).map (fun i => (i.zero, i.size, i.bytes)) = some (some (.agg #[.int .u32 0, .int .u32 0]), 2, 8) := by kernel_rfl
theorem undSpans : Tryz.prog.underlying 22 = some (.slice 43) := by kernel_rfl
theorem ahead_hn (a : Addr) (w : World) : (nilAhead 318 92 (.pointer (some a)) "HasNext").run Tryz.prog w = .ok (some false) w := by kernel_rfl
theorem method_hn (a : Addr) (w : World) : (method 318 92 (.pointer (some a)) "HasNext").run Tryz.prog w = .ok (250, .pointer (some a)) w := by kernel_rfl
theorem ahead_nx (a : Addr) (w : World) : (nilAhead 318 92 (.pointer (some a)) "Next").run Tryz.prog w = .ok (some false) w := by kernel_rfl
theorem method_nx (a : Addr) (w : World) : (method 318 92 (.pointer (some a)) "Next").run Tryz.prog w = .ok (251, .pointer (some a)) w := by kernel_rfl
end Go.Proofs
