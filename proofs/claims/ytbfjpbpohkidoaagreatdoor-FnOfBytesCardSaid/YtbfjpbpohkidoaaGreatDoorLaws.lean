/-
  Laws for the walk, in the words of Heap: append onto a slice that owns its block; copy; a slice that is made.
-/
import Derived.Test.YtbfjpbpohkidoaaGreatDoorHeap
import Derived.Laws.CopyOwn
namespace Go.Roar
open Go.RowKit

theorem Kept.setCells (b : Nat) : ∀ (vs : List Value) (o : Nat) (w : World), Kept (· = b) w (w.setCells b o vs)
  | [], _, w => Kept.refl _ w
  | v :: r, o, w => by
    have h1 : Kept (· = b) w (w.setCell ⟨b, o, none⟩ v) := Kept.setCell (S := (· = b)) (p := ⟨b, o, none⟩) (Kept.refl _ _) (fun _ => rfl) _
    exact h1.trans (Kept.setCells b r (o + 1) _)

theorem Blk.setCells {b : Nat} {t : TypeId} : ∀ (vs mid pre post : List Value) (w : World), Blk w b t (pre ++ mid ++ post) → mid.length = vs.length → Blk (w.setCells b pre.length vs) b t (pre ++ vs ++ post)
  | [], mid, pre, post, w, h, hl => by
    obtain rfl : mid = [] := List.eq_nil_of_length_eq_zero (by simpa using hl)
    exact h
  | v :: vs, [], pre, post, w, h, hl => by simp at hl
  | v :: vs, m :: mid, pre, post, w, h, hl => by
    have h1 := h.set pre.length v
    rw [List.append_assoc, List.set_append_right _ _ (Nat.le_refl _), Nat.sub_self] at h1
    have h2 : Blk (w.setCell ⟨b, pre.length, none⟩ v) b t ((pre ++ [v]) ++ mid ++ post) := by simpa using h1
    have h3 := Blk.setCells vs mid (pre ++ [v]) post _ h2 (by simpa using hl)
    simpa [World.setCells] using h3

/-- 'append(s, x...)', s owning its block: the result owns its block, which is the elder one or a new one. -/
theorem wpList_append_mine {P : Program} {w : World} {ops : Array Oper} {rest : List Oper} {o : Oper} {a : Act} {Q : Exit → Act → World → Prop} (hgd : o.guard = none) (s x : Operand) (t : TypeId)
    (ho : o.op = .call { callee := .builtin .append, args := #[s, x], argTypes := #[t, t] })
    (e : TypeId) (i : TypeInfo) (z : Value) (size bytes : Nat) (ht : P.underlying t = some (.slice e)) (hi : P.info? e = some i) (hz : i.zero = some z)
    (hsize : i.size = size) (hby : i.bytes = bytes) (hzs : z.cells.size = size) (hsz : 0 < size)
    (v : Value) (n : Nat) (xs : List Value) (hs : a.eval s = v) (hown : Own w size e v n xs)
    (ad : Addr) (m c : Nat) (news : List Value) (hx : a.eval x = .slice (some ad) m c) (hl : news.length = m * size) (hnews : ∀ j u, news[j]? = some u → w.cell? (ad.add j) = some u) (h1 : ∀ u ∈ news, u.oneCell' = true)
    (h63 : n + m ≤ maxLen) (hbytes : (n + m) * bytes ≤ 140737488355328)
    (h : ∀ v' w', Own w' size e v' (n + m) (xs ++ news) → Kept (· ∈ blkOf v) w w' → (∀ b ∈ blkOf v', b ∈ blkOf v ∨ w.heap.size ≤ b) → wpList P ops Q rest (a.put o.dst v') w') : wpList P ops Q (o :: rest) a w := by
  obtain ⟨hxl, ⟨rfl, rfl⟩ | ⟨g, k, r, rfl, hr, hm, hg⟩⟩ := hown
  · obtain rfl : xs = [] := List.eq_nil_of_length_eq_zero (by simpa using hxl)
    refine wpList_append_own w hgd s x t ho w.heap.size e i z size bytes ht hi hz hsize hby hzs hsz _ 0 [] hs ⟨by simp, .inl ⟨rfl, rfl⟩⟩ ad m c news hx hl hnews h1 h63 hbytes (Nat.le_refl _) ?_
    intro v' w' hown hgr _
    refine h v' w' (Own.ofRow hown) ((Kept.refl _ _).grown hgr (by intro k hk; simp [Value.ownBlock] at hk)) ?_
    intro b hb
    rcases hown.2 with ⟨rfl, _⟩ | ⟨g, cap, cur, rfl, hg, _⟩
    · simp at hb
    · simp at hb; subst hb; exact .inr hg
  · refine wpList_append_arg w hgd s x t ho e i z size bytes ht hi hz hsize hby hzs hsz g 0 n (n + k) xs hs hxl
      (fun j u hj => by
        rw [Nat.zero_add]
        rw [hg.cell j, List.getElem?_append_left (List.getElem?_eq_some_iff.1 hj).1]; exact hj) ad m c news hx hl hnews h1 ?_ h63 hbytes ?_ ?_
    · intro hroom j hj
      rw [Nat.zero_add]
      refine ⟨?_, hg.free _⟩
      rw [hg.cell, List.getElem?_append_right (by omega)]
      have : m * size ≤ k * size := Nat.mul_le_mul_right _ (by omega)
      simp; omega
    · intro hroom
      have hms : m * size ≤ k * size := Nat.mul_le_mul_right _ (by omega)
      have hB : Blk (w.setCells g (0 + n * size) news) g e (xs ++ news ++ r.drop (m * size)) := by
        rw [Nat.zero_add, ← hxl]
        refine Blk.setCells news (r.take (m * size)) xs (r.drop (m * size)) w (by rw [List.append_assoc, List.take_append_drop]; exact hg) (by simp; omega)
      refine h _ _ ⟨by simp [hxl, hl, Nat.add_mul], .inr ⟨g, k - m, r.drop (m * size), by congr 1; omega, ?_, by omega, hB⟩⟩ ?_ ?_
      · simp [hr, Nat.sub_mul]
      · exact (Kept.setCells g news _ w).mono (by intro k _ hk; simp [hk])
      · intro b hb; exact .inl (by simpa using hb)
    · intro hgrow v' w' hown hgr
      refine h v' w' (Own.ofRow hown) ((Kept.refl _ _).grown hgr (by intro k hk; cases hk)) ?_
      intro b hb
      rcases hown.2 with ⟨rfl, _⟩ | ⟨g', cap, cur, rfl, hg', _⟩
      · simp at hb
      · simp at hb; subst hb; exact .inr hg'

theorem Kept.setRow (w : World) (g : Nat) (cs : Array Value) : Kept (· = g) w (w.setRow g cs) :=
  ⟨rfl, rfl, rfl, by simp [World.setRow], fun k _ hk => setRow_other w g k cs hk⟩

theorem run_copy_wide {P : Program} (w : World) (dT sT ty elem : TypeId) (size g o dLen dCap : Nat) (a : Addr) (sLen sCap n : Nat) (cur : List Value) (t : TypeId) (cs : List Value)
    (hu : P.underlying dT = some (.slice elem)) (hs : (P.info? elem).map (·.size) = some size)
    (hg : Blk w g t cur) (hn : n = Nat.min sLen dLen) (hl : cs.length = n * size)
    (hsrc : ∀ j v, cs[j]? = some v → w.cell? (a.add j) = some v) (hfit : o + cs.length ≤ cur.length) (h1 : ∀ v ∈ cs, v.oneCell' = true) :
    (Builtin.copy_ #[dT, sT] ty #[.slice (some ⟨g, o, none⟩) dLen dCap, .slice (some a) sLen sCap]).run P w =
      .ok (goInt n) (w.setRow g (splice cur o cs).toArray) := by
  have hf := run_firstCells_some (P := P) w size n a sLen sCap cs hl hsrc
  have hst := run_storeCells_at P g o t cs 0 cur.toArray w hg (by simpa using hfit) h1
  cases hq : P.info? elem with
  | none => simp [hq] at hs
  | some i =>
    have hi : i.size = size := by simpa [hq] using hs
    simp only [Nat.add_zero] at hst
    simp [Builtin.copy_, run_underlying hu, Builtin.lenOf, sizeOf, typeInfo, hq, hi, ← hn, hf, hst, splice]

theorem run_copy_zero {P : Program} (w : World) (dT sT ty elem : TypeId) (d s : Option Addr) (dLen dCap sLen sCap : Nat)
    (hu : P.underlying dT = some (.slice elem)) (hs : ((P.info? elem).map (·.size)).isSome = true) (hn : Nat.min sLen dLen = 0) :
    (Builtin.copy_ #[dT, sT] ty #[.slice d dLen dCap, .slice s sLen sCap]).run P w = .ok (goInt 0) w := by
  cases hq : P.info? elem with
  | none => simp [hq] at hs
  | some i =>
    have hf : (Builtin.firstCells i.size 0 (.slice s sLen sCap)).run P w = .ok #[] w := by
      cases s with
      | none => simp [Builtin.firstCells]
      | some a => exact run_firstCells_some (P := P) w i.size 0 a sLen sCap [] (by simp) (by simp)
    cases d <;> simp [Builtin.copy_, run_underlying hu, Builtin.lenOf, sizeOf, typeInfo, hq, hn, hf, storeCells]

/-- 'copy(d, s)': n elements of 'size' cells are laid over block g from cell 'off' on. -/
theorem wpList_copy_mine {P : Program} {w : World} {ops : Array Oper} {rest : List Oper} {o : Oper} {a : Act} {Q : Exit → Act → World → Prop} (hgd : o.guard = none) (d s : Operand) (dT sT : TypeId)
    (ho : o.op = .call { callee := .builtin .copy, args := #[d, s], argTypes := #[dT, sT] }) (elem : TypeId) (size : Nat) (hu : P.underlying dT = some (.slice elem)) (hsz : (P.info? elem).map (·.size) = some size)
    (dp sp : Option Addr) (dLen dCap sLen sCap : Nat) (hd : a.eval d = .slice dp dLen dCap) (hs : a.eval s = .slice sp sLen sCap)
    (g off n : Nat) (cur : List Value) (t : TypeId) (hg : Blk w g t cur) (cs : List Value) (hn : n = Nat.min sLen dLen) (hl : cs.length = n * size)
    (hpos : 0 < n → dp = some ⟨g, off, none⟩ ∧ ∃ ad, sp = some ad ∧ ∀ j v, cs[j]? = some v → w.cell? (ad.add j) = some v)
    (hfit : off + cs.length ≤ cur.length) (h1 : ∀ v ∈ cs, v.oneCell' = true)
    (h : ∀ w', Blk w' g t (splice cur off cs) → Kept (· = g) w w' → wpList P ops Q rest (a.put o.dst (goInt n)) w') :
    wpList P ops Q (o :: rest) a w := by
  refine wpList_plain hgd fun K hK => ?_
  rcases Nat.eq_zero_or_pos n with h0 | h0
  · subst h0
    obtain rfl : cs = [] := List.eq_nil_of_length_eq_zero (by simpa using hl)
    have hrun := run_copy_zero (P := P) w dT sT o.type elem dp sp dLen dCap sLen sCap hu (by rw [hsz]; rfl) hn.symm
    unfold Oper.wp
    simp [execOp, ho, resolve, invoke, builtin, hd, hs, hrun, Result.andThen]
    exact hK _ _ (h w (by simpa [splice] using hg) (Kept.refl _ _))
  · obtain ⟨rfl, ad, rfl, hsrc⟩ := hpos h0
    have hrun := run_copy_wide (P := P) w dT sT o.type elem size g off dLen dCap ad sLen sCap n cur t cs hu hsz hg hn hl hsrc hfit h1
    unfold Oper.wp
    simp [execOp, ho, resolve, invoke, builtin, hd, hs, hrun, Result.andThen]
    exact hK _ _ (h _ (setRow_heap w g _ _ t _ hg) (Kept.setRow w g _))
end Go.Roar
