/-
  append of a value of another slice type: two types in place of one.
  append of a value of another slice type, the source with an address or nil.
  append onto a slice of the function's own: what it leaves, and that nothing else has been written.
-/
import Derived.Test.YteagcndpegdojaaGreatDoorJHeap
import Derived.Maps.AppendAt
namespace Go.Proofs
open Go.RowKit Go.Roar
theorem append_two (P : Program) (w : World) (t tx ty e : TypeId) (s x : Value) (ht : P.underlying t = some (.slice e)) (htx : P.underlying tx = some (.slice e)) :
    (Builtin.append_ #[t, tx] ty #[s, x]).run P w = (Builtin.append_ #[t, t] ty #[s, x]).run P w := by
  unfold Builtin.append_
  cases s <;> simp [Sem.run_bind, run_underlying, ht, htx]
theorem append_own_two {P : Program} {ops : Array Oper} {rest : List Oper} {o : Oper} {a : Act} {w : World} {Q : Exit → Act → World → Prop} (hgd : o.guard = none) (s x : Operand) (t tx : TypeId)
    (ho : o.op = .call { callee := .builtin .append, args := #[s, x], argTypes := #[t, tx] })
    (base : Nat) (e : TypeId) (i : TypeInfo) (z : Value) (size bytes : Nat) (ht : P.underlying t = some (.slice e)) (htx : P.underlying tx = some (.slice e)) (hi : P.info? e = some i) (hz : i.zero = some z)
    (hsize : i.size = size) (hby : i.bytes = bytes) (hzs : z.cells.size = size) (hsz : 0 < size)
    (v : Value) (n : Nat) (xs : List Value) (hs : a.eval s = v) (hown : w.ownsRow base e size v n xs)
    (ad : Addr) (m c : Nat) (news : List Value) (hx : a.eval x = .slice (some ad) m c) (hl : news.length = m * size) (hnews : ∀ j u, news[j]? = some u → w.cell? (ad.add j) = some u) (h1 : ∀ u ∈ news, u.oneCell' = true)
    (h63 : n + m ≤ maxLen) (hbytes : (n + m) * bytes ≤ 140737488355328) (hbase : base ≤ w.heap.size)
    (h : ∀ v' w', w'.ownsRow base e size v' (n + m) (xs ++ news) → w.grownBy w' v.ownBlock → (v' = .slice none 0 0 ↔ v = .slice none 0 0 ∧ m = 0) → (v'.ownBlock = v.ownBlock ∨ v'.ownBlock = some w.heap.size) → wpList P ops Q rest (a.put o.dst v') w') :
    wpList P ops Q (o :: rest) a w := by
  refine wpList_plain hgd fun K hK => ?_
  obtain ⟨v', w', hr, h2, h3, h4, h5⟩ := run_append_own_at (P := P) w base t o.type e i z size bytes ht hi hz hsize hby hzs hsz v n xs hown ad m c news hl hnews h1 h63 hbytes hbase
  rw [← append_two P w t tx o.type e _ _ ht htx] at hr
  unfold Oper.wp execOp
  simp only [ho, resolve, invoke, builtin, Sem.run_bind, Sem.run_pure, Result.andThen_ok, List.map_toArray, List.map_cons, List.map_nil, hs, hx, hr]
  exact hK _ _ (h v' w' h2 h3 h4 h5)
end Go.Proofs

namespace Go.Proofs
open Go.RowKit Go.Roar
theorem append_nil_two (P : Program) (w : World) (t tx ty e : TypeId) (i : TypeInfo) (b : Option Addr) (n k c : Nat) (ht : P.underlying t = some (.slice e)) (htx : P.underlying tx = some (.slice e)) (hi : P.info? e = some i) :
    (Builtin.append_ #[t, tx] ty #[.slice b n (n + k), .slice none 0 c]).run P w = .ok (.slice b n (n + k)) w := by
  unfold Builtin.append_
  cases b <;> simp [Sem.run_bind, run_underlying, ht, htx, sizeOf, typeInfo, hi, Builtin.lenOf, Builtin.firstCells, go_sem]
theorem append_own_src {P : Program} {ops : Array Oper} {rest : List Oper} {o : Oper} {a : Act} {w : World} {Q : Exit → Act → World → Prop} (hgd : o.guard = none) (s x : Operand) (t tx : TypeId)
    (ho : o.op = .call { callee := .builtin .append, args := #[s, x], argTypes := #[t, tx] })
    (base : Nat) (e : TypeId) (i : TypeInfo) (z : Value) (size bytes : Nat) (ht : P.underlying t = some (.slice e)) (htx : P.underlying tx = some (.slice e)) (hi : P.info? e = some i) (hz : i.zero = some z)
    (hsize : i.size = size) (hby : i.bytes = bytes) (hzs : z.cells.size = size) (hsz : 0 < size)
    (v : Value) (n : Nat) (xs : List Value) (hs : a.eval s = v) (hown : w.ownsRow base e size v n xs)
    (A : Option Addr) (m c : Nat) (news : List Value) (hx : a.eval x = .slice A m c) (hl : news.length = m * size) (hA : A = none → m = 0) (hnews : ∀ ad, A = some ad → ∀ j u, news[j]? = some u → w.cell? (ad.add j) = some u) (h1 : ∀ u ∈ news, u.oneCell' = true)
    (h63 : n + m ≤ maxLen) (hbytes : (n + m) * bytes ≤ 140737488355328) (hbase : base ≤ w.heap.size)
    (h : ∀ v' w', w'.ownsRow base e size v' (n + m) (xs ++ news) → w.grownBy w' v.ownBlock → (v'.ownBlock = v.ownBlock ∨ v'.ownBlock = some w.heap.size) → wpList P ops Q rest (a.put o.dst v') w') :
    wpList P ops Q (o :: rest) a w := by
  cases A with
  | some ad => exact append_own_two hgd s x t tx ho base e i z size bytes ht htx hi hz hsize hby hzs hsz v n xs hs hown ad m c news hx hl (hnews ad rfl) h1 h63 hbytes hbase (fun v' w' h2 h3 _ h5 => h v' w' h2 h3 h5)
  | none =>
    obtain rfl := hA rfl
    obtain rfl : news = [] := List.eq_nil_of_length_eq_zero (by rw [hl, Nat.zero_mul])
    have hv : ∃ b k, v = .slice b n (n + k) := by
      obtain ⟨_, ⟨h2, h3⟩ | ⟨b, k, r, h2, _⟩⟩ := Own.ofRow hown
      · subst h3; exact ⟨none, 0, h2⟩
      · exact ⟨_, _, h2⟩
    obtain ⟨b, k, rfl⟩ := hv
    refine wpList_plain hgd fun K hK => ?_
    unfold Oper.wp execOp
    simp only [ho, resolve, invoke, builtin, Sem.run_bind, Sem.run_pure, Result.andThen_ok, List.map_toArray, List.map_cons, List.map_nil, hs, hx, append_nil_two P w t tx o.type e i b n k c ht htx hi]
    exact hK _ _ (h _ w (by rw [Nat.add_zero, List.append_nil]; exact hown) (World.grownBy.refl w _) (.inl rfl))
end Go.Proofs

namespace Go.Proofs
open Go.RowKit Go.Roar
theorem own_step {S : Nat → Prop} {w wA w1 : World} {v v1 : Value} (m : Kept S w wA) (hg : wA.grownBy w1 v.ownBlock) (hat : v1.ownBlock = v.ownBlock ∨ v1.ownBlock = some wA.heap.size) (hv : ∀ b ∈ blkOf v, w.heap.size ≤ b) :
    Kept S w w1 ∧ Kept (· ∈ blkOf v) wA w1 ∧ (∀ b ∈ blkOf v1, w.heap.size ≤ b) ∧ ∀ b ∈ blkOf v1, b ∈ blkOf v ∨ wA.heap.size ≤ b := by
  have hs := m.size
  have kB : Kept (· ∈ blkOf v) wA w1 := Kept.grown (Kept.refl _ _) hg (fun k hk _ => by unfold blkOf; rw [hk]; simp)
  refine ⟨Kept.then m kB (fun b hb hx => absurd (hv b hx) (by omega)), kB, fun b hb => ?_, fun b hb => ?_⟩
  · rcases hat with h | h
    · exact hv b (by unfold blkOf at hb ⊢; rw [← h]; exact hb)
    · unfold blkOf at hb; rw [h] at hb; simp at hb; omega
  · rcases hat with h | h
    · exact .inl (by unfold blkOf at hb ⊢; rw [← h]; exact hb)
    · unfold blkOf at hb; rw [h] at hb; simp at hb; exact .inr (by omega)
theorem append_own_kept {S : Nat → Prop} {P : Program} {ops : Array Oper} {rest : List Oper} {o : Oper} {a : Act} {w : World} {Q : Exit → Act → World → Prop} (w0 : World) (hgd : o.guard = none) (s x : Operand) (t tx : TypeId)
    (ho : o.op = .call { callee := .builtin .append, args := #[s, x], argTypes := #[t, tx] })
    (e : TypeId) (i : TypeInfo) (z : Value) (size bytes : Nat) (ht : P.underlying t = some (.slice e)) (htx : P.underlying tx = some (.slice e)) (hi : P.info? e = some i) (hz : i.zero = some z)
    (hsize : i.size = size) (hby : i.bytes = bytes) (hzs : z.cells.size = size) (hsz : 0 < size)
    (v : Value) (n : Nat) (xs : List Value) (hs : a.eval s = v) (hown : Own w size e v n xs) (hM : Kept S w0 w) (hF : ∀ b ∈ blkOf v, w0.heap.size ≤ b)
    (A : Option Addr) (m c : Nat) (news : List Value) (hx : a.eval x = .slice A m c) (hl : news.length = m * size) (hA : A = none → m = 0) (hnews : ∀ ad, A = some ad → ∀ j u, news[j]? = some u → w.cell? (ad.add j) = some u) (h1 : ∀ u ∈ news, u.oneCell' = true)
    (h63 : n + m ≤ maxLen) (hbytes : (n + m) * bytes ≤ 140737488355328)
    (h : ∀ v' w', Own w' size e v' (n + m) (xs ++ news) → Kept S w0 w' → Kept (· ∈ blkOf v) w w' → (∀ b ∈ blkOf v', w0.heap.size ≤ b) → (∀ b ∈ blkOf v', b ∈ blkOf v ∨ w.heap.size ≤ b) → wpList P ops Q rest (a.put o.dst v') w') :
    wpList P ops Q (o :: rest) a w := by
  refine append_own_src hgd s x t tx ho 0 e i z size bytes ht htx hi hz hsize hby hzs hsz v n xs hs hown.toRow A m c news hx hl hA hnews h1 h63 hbytes (Nat.zero_le _) ?_
  intro v' w' h2 h3 h5
  obtain ⟨k1, k2, k3, k4⟩ := own_step hM h3 h5 hF
  exact h v' w' (Own.ofRow h2) k1 k2 k3 k4
end Go.Proofs
