/-
  runContainer16.invertlastInterval: what lies around the last run.
  append of a value of another slice type: two types in place of one.
  append of a value of another slice type, the source with an address or nil.
  runContainer16.invert: the runs of what a container has not.
-/
import Derived.Test.YtjjijipfhnoomaaGreatDoorJRsb
import Derived.Test.YtjjijipfhnoomaaGreatDoorJOnr
import Derived.Test.YtjjijipfhnoomaaGreatDoorJHeap
import Derived.Test.YtjjijipfhnoomaaGreatDoorKUni
import Derived.Test.YtjjijipfhnoomaaGreatDoorJKo
import Derived.Deep.RegionHeld3
import Derived.Maps.AppendAt
import Derived.Deep.AppendLies
namespace Go.Roar
open Go.RowKit Go.Proofs
/-- A new slice of two structs. -/
theorem SS.newO2 {w0 w : World} {F0 : List Nat} {L : List HA} (h : SS w0 F0 w L) (t : TypeId) (a b c d : Value) : SS w0 F0 (w.alloc (.cells #[a, b, c, d] t)) (O 2 t (.slice (some ⟨w.heap.size, 0, none⟩) 2 2) 2 [a, b, c, d] :: L) := by
  refine h.join (M := [O 2 t (.slice (some ⟨w.heap.size, 0, none⟩) 2 2) 2 [a, b, c, d]]) ⟨⟨fun A hA => ?_, by simp [O]⟩, fun b hb => ?_, (Kept.refl _ _).alloc _⟩
  · simp at hA; subst hA
    exact ⟨rfl, .inr ⟨w.heap.size, 0, [], rfl, rfl, by unfold maxLen; omega, Blk.new w t [a, b, c, d]⟩⟩
  · simp [O] at hb; subst hb; exact .inr (Nat.le_refl _)
theorem SS.box3 {w0 W : World} {F : List Nat} {H : Nat} {t : TypeId} {x y : Value} (h : SS w0 F W [B H t [x, y]]) : W.cell? ⟨H, 0, none⟩ = some x ∧ W.cell? ⟨H, 1, none⟩ = some y ∧ SS w0 F W [B H t [x, y]] := ⟨h.cell 0 rfl 0 rfl, h.cell 0 rfl 1 rfl, h⟩
end Go.Roar
namespace Go.Proofs
open Go.RowKit Go.Roar
attribute [local go_sem ↓] Go.wp_at_zero Go.wp_at_succ

set_option maxRecDepth 100000 in
set_option maxHeartbeats 4000000 in
theorem invLast_any (p i s : Nat) (a : List (Nat × Nat)) (r : Nat × Nat) (w : World) (hA : RCV w p a) (ha : RgOK 65536 a) (hr : a[i]? = some r) (hs : s ≤ r.1) :
    Calls Tryz.prog 242 #[.pointer (some ⟨p, 0, none⟩), .int .u16 (s : Int), .int .i64 (i : Int)] w fun ed w' => ∃ v, ed = .returned v ∧ SS w [] w' [O 2 114 v (lastV s r).length (ivs (lastV s r))] := by
  have r1 := rg_at ha hr
  have hal := ha.many
  obtain ⟨g, c, hc, a0, a1⟩ := hA
  obtain ⟨x1, x2⟩ := a1 i r hr
  have hil := (List.getElem?_eq_some_iff.1 hr).1
  clear a1 hr ha
  generalize a.length = n at *
  have i0 : (i : Int) < (n : Int) := by omega
  have S0 := SS.new (w := w) (L := []) (SS.init (w := w) (L := []) ⟨by simp, by simp⟩) 114 [.int .u16 (r.1 : Int), .int .u16 ((r.2 - r.1 : Nat) : Int)]
  have LR := Lib.hid (fun (W : World) => last_r r W r1)
  have H0 := Lib.hid S0
  by_cases h1 : r.2 = 65535
  · have e1b : ((r.2 : Int) == 65535) = true := by rw [beq_iff_eq]; omega
    have e1 : (r.2 : Int) = 65535 := by omega
    rcases Nat.eq_or_lt_of_le hs with h2 | h2
    · have hv : lastV s r = [] := by unfold lastV; rw [if_neg (by omega), if_neg (by omega)]; rfl
      rw [hv]
      subst h2
      clear hv h1
      go_enter Tryz.func242, Tryz.ntmps242
      go_upto_region 2 with fail
      have c1 := S0.cell 0 rfl 0 rfl
      have c2 := S0.cell 0 rfl 1 rfl
      clear S0
      go_wp2_with (first
        | (go_at_call 68; (with_reducible refine (LR.out _).mono ?_); rintro ed w3 ⟨rfl, hk⟩; have S3 := Lib.hid (H0.out.quiet hk); have d1 := S3.out.cell 0 rfl 0 rfl; clear hk c1 c2)
        | fail)
      go_ret
      exact ⟨_, rfl, (SS.bare w 2 114).quiet (SS.mild S3.out)⟩
    · have hv : lastV s r = [(s, r.1 - 1)] := by unfold lastV; rw [if_pos h2, if_neg (by omega)]; rfl
      rw [hv]
      have e2b : ((r.1 : Int) == (s : Int)) = false := by rw [beq_eq_false_iff_ne]; omega
      have e2 : ¬ (r.1 : Int) = (s : Int) := by omega
      have q1 : IntKind.u16.wrap ((r.1 : Int) - 1) = ((r.1 - 1 : Nat) : Int) := (IntWalk.u16_in _ (by omega)).trans (by omega)
      have CN := Lib.hid (fun (W : World) => newInterval_any s (r.1 - 1) W (by omega) (by omega))
      clear hv h1 h2
      go_enter Tryz.func242, Tryz.ntmps242
      go_upto_region 2 with fail
      have c1 := S0.cell 0 rfl 0 rfl
      have c2 := S0.cell 0 rfl 1 rfl
      clear S0
      go_wp2_with (first
        | (go_at_call 68; (with_reducible refine (LR.out _).mono ?_); rintro ed w3 ⟨rfl, hk⟩; have S3 := Lib.hid (H0.out.quiet hk); have d1 := S3.out.cell 0 rfl 0 rfl; clear hk c1 c2)
        | (go_at_call 55; (with_reducible refine (CN.out _).mono ?_); rintro ed w4 ⟨rfl, hk⟩; have S4 := Lib.hid (S3.out.quiet hk); clear hk)
        | fail)
      go_ret
      exact ⟨_, rfl, ((SS.newO S4.out 114 (.int .u16 (s : Int)) (.int .u16 ((r.1 - 1 - s : Nat) : Int))).left (L := [_]))⟩
  · have e1b : ((r.2 : Int) == 65535) = false := by rw [beq_eq_false_iff_ne]; omega
    have e1 : ¬ (r.2 : Int) = 65535 := by omega
    have q2 : IntKind.u16.wrap ((r.2 : Int) + 1) = (r.2 : Int) + 1 := IntWalk.u16_in _ (by omega)
    obtain ⟨K, hK⟩ : ∃ K, K = 65535 - (r.2 + 1) := ⟨_, rfl⟩
    have CM := Lib.hid (fun (W : World) => show Calls Tryz.prog 55 #[.int .u16 ((r.2 : Int) + 1), .int .u16 65535] W fun ed w' => ed = .returned (.agg #[.int .u16 ((r.2 : Int) + 1), .int .u16 (K : Int)]) ∧ Mild W w' from by rw [hK]; exact newInterval_any (r.2 + 1) 65535 W (by omega) (by omega))
    have HK := Lib.hid hK
    clear hK
    rcases Nat.eq_or_lt_of_le hs with h2 | h2
    · have hv : lastV s r = [(r.2 + 1, 65535)] := by unfold lastV; rw [if_neg (by omega), if_pos (by omega)]; rfl
      rw [hv]
      subst h2
      clear hv h1
      go_enter Tryz.func242, Tryz.ntmps242
      go_upto_region 2 with fail
      have c1 := S0.cell 0 rfl 0 rfl
      have c2 := S0.cell 0 rfl 1 rfl
      clear S0
      go_upto_region 7 with (first
        | (go_at_call 68; (with_reducible refine (LR.out _).mono ?_); rintro ed w3 ⟨rfl, hk⟩; have S3 := Lib.hid (H0.out.quiet hk); have d1 := S3.out.cell 0 rfl 0 rfl; have d2 := S3.out.cell 0 rfl 1 rfl; clear hk c1 c2)
        | fail)
      go_wp2_with (first
        | (go_at_call 68; (with_reducible refine (LR.out _).mono ?_); rintro ed w4 ⟨rfl, hk⟩; have S4 := Lib.hid (S3.out.quiet hk); clear hk)
        | (go_at_call 55; (with_reducible refine (CM.out _).mono ?_); rintro ed w5 ⟨rfl, hk⟩; have S5 := Lib.hid (S4.out.quiet hk); clear hk)
        | fail)
      go_ret
      have hf := (SS.newO S5.out 114 (.int .u16 ((r.2 : Int) + 1)) (.int .u16 (K : Int))).left (L := [_])
      refine ⟨_, rfl, ?_⟩
      simp only [ivs, List.flatMap_cons, List.flatMap_nil, List.append_nil, ← HK.out]
      exact hf
    · have hv : lastV s r = [(s, r.1 - 1), (r.2 + 1, 65535)] := by unfold lastV; rw [if_pos h2, if_pos (by omega)]; rfl
      rw [hv]
      have e2b : ((r.1 : Int) == (s : Int)) = false := by rw [beq_eq_false_iff_ne]; omega
      have e2 : ¬ (r.1 : Int) = (s : Int) := by omega
      have q1 : IntKind.u16.wrap ((r.1 : Int) - 1) = ((r.1 - 1 : Nat) : Int) := (IntWalk.u16_in _ (by omega)).trans (by omega)
      have CN := Lib.hid (fun (W : World) => newInterval_any s (r.1 - 1) W (by omega) (by omega))
      clear hv h1 h2
      go_enter Tryz.func242, Tryz.ntmps242
      go_upto_region 2 with fail
      have c1 := S0.cell 0 rfl 0 rfl
      have c2 := S0.cell 0 rfl 1 rfl
      clear S0
      go_upto_region 8 with (first
        | (go_at_call 68; (with_reducible refine (LR.out _).mono ?_); rintro ed w3 ⟨rfl, hk⟩; have S3 := Lib.hid (H0.out.quiet hk); have d1 := S3.out.cell 0 rfl 0 rfl; have d2 := S3.out.cell 0 rfl 1 rfl; clear hk c1 c2)
        | fail)
      have S3d := S3.out.drew
      clear d1 d2
      go_region_held3 (fun w' => w'.cell? ⟨w.heap.size, 0, none⟩ = some (.int .u16 (r.1 : Int)) ∧ w'.cell? ⟨w.heap.size, 1, none⟩ = some (.int .u16 ((r.2 - r.1 : Nat) : Int)) ∧ SS w [] w' [B w.heap.size 114 [.int .u16 (r.1 : Int), .int .u16 ((r.2 - r.1 : Nat) : Int)]]) (first
        | exact SS.box3 (SS.quiet (And.right (And.right (by assumption))) hk)
        | exact SS.box3 S3d
        | exact SS.box3 (SS.alloc (And.right (And.right (by assumption))) _)) (first
        | (go_at_call 68; (with_reducible refine (LR.out _).mono ?_); rintro ed w4 ⟨rfl, hk⟩)
        | (go_at_call 55; (with_reducible refine (CN.out _).mono ?_); rintro ed w5 ⟨rfl, hk⟩)
        | (go_at_call 55; (with_reducible refine (CM.out _).mono ?_); rintro ed w6 ⟨rfl, hk⟩)
        | fail)
      have h6 : SS w [] w6 [B w.heap.size 114 [.int .u16 (r.1 : Int), .int .u16 ((r.2 - r.1 : Nat) : Int)]] := by
        have k1 : Mild w3.drew w5 := by assumption
        have k2 : Mild w5 w4 := by assumption
        exact ((S3d.quiet k1).quiet k2).quiet hk
      have hf := (SS.newO2 h6 114 (.int .u16 (s : Int)) (.int .u16 ((r.1 - 1 - s : Nat) : Int)) (.int .u16 ((r.2 : Int) + 1)) (.int .u16 (K : Int))).left (L := [_])
      go_wp2
      go_ret
      refine ⟨_, rfl, ?_⟩
      simp only [ivs, List.flatMap_cons, List.flatMap_nil, List.append_nil, ← HK.out]
      exact hf
end Go.Proofs

namespace Go.Proofs
open Go.RowKit Go.Roar
theorem append_two (P : Program) (w : World) (t tx ty e : TypeId) (s x : Value) (ht : P.underlying t = some (.slice e)) (htx : P.underlying tx = some (.slice e)) :
    (Builtin.append_ #[t, tx] ty #[s, x]).run P w = (Builtin.append_ #[t, t] ty #[s, x]).run P w := by
  unfold Builtin.append_
  cases s <;> simp [Sem.run_bind, run_underlying, ht, htx]
theorem append_own_two {P : Program} {ops : Array Oper} {rest : List Oper} {o : Oper} {a : Act} {w : World} {Q : Exit → Act → World → Prop} (hgd : o.guard = none) (s x : Operand) (t tx : TypeId)
    (ho : o.op = .call { callee := .builtin .append, args := #[s, x], argTypes := #[t, tx] })
    (base : Nat) (e : TypeId) (i : TypeInfo) (z : Value) (size bytes : Nat) (ht : P.underlying t = some (.slice e)) (htx : P.underlying tx = some (.slice e)) (hi : P.info? e = some i) (hz : i.zero = some z)
    (hsize : i.size = size) (hby : i.bytes = bytes) (hzs : z.cells.size = size) (hsz : 0 < size)
    (v : Value) (n : Nat) (xs : List Value) (hs : a.eval s = v) (hown : w.ownsRow base e size v n xs)
    (ad : Addr) (m c : Nat) (news : List Value) (hx : a.eval x = .slice (some ad) m c) (hl : news.length = m * size) (hnews : ∀ j u, news[j]? = some u → w.cell? (ad.add j) = some u) (h1 : ∀ u ∈ news, u.oneCell' = true)
    (h63 : n + m ≤ maxLen) (hbytes : (n + m) * bytes ≤ 140737488355328) (hbase : base ≤ w.heap.size)
    (h : ∀ v' w', w'.ownsRow base e size v' (n + m) (xs ++ news) → w.grownBy w' v.ownBlock → (v' = .slice none 0 0 ↔ v = .slice none 0 0 ∧ m = 0) → (v'.ownBlock = v.ownBlock ∨ v'.ownBlock = some w.heap.size) → wpList P ops Q rest (a.put o.dst v') w') :
    wpList P ops Q (o :: rest) a w := by
  refine wpList_plain hgd fun K hK => ?_
  obtain ⟨v', w', hr, h2, h3, h4, h5⟩ := run_append_own_at (P := P) w base t o.type e i z size bytes ht hi hz hsize hby hzs hsz v n xs hown ad m c news hl hnews h1 h63 hbytes hbase
  rw [← append_two P w t tx o.type e _ _ ht htx] at hr
  unfold Oper.wp execOp
  simp only [ho, resolve, invoke, builtin, Sem.run_bind, Sem.run_pure, Result.andThen_ok, List.map_toArray, List.map_cons, List.map_nil, hs, hx, hr]
  exact hK _ _ (h v' w' h2 h3 h4 h5)
end Go.Proofs

namespace Go.Proofs
open Go.RowKit Go.Roar
theorem append_nil_two (P : Program) (w : World) (t tx ty e : TypeId) (i : TypeInfo) (b : Option Addr) (n k c : Nat) (ht : P.underlying t = some (.slice e)) (htx : P.underlying tx = some (.slice e)) (hi : P.info? e = some i) :
    (Builtin.append_ #[t, tx] ty #[.slice b n (n + k), .slice none 0 c]).run P w = .ok (.slice b n (n + k)) w := by
  unfold Builtin.append_
  cases b <;> simp [Sem.run_bind, run_underlying, ht, htx, sizeOf, typeInfo, hi, Builtin.lenOf, Builtin.firstCells, go_sem]
theorem append_own_src {P : Program} {ops : Array Oper} {rest : List Oper} {o : Oper} {a : Act} {w : World} {Q : Exit → Act → World → Prop} (hgd : o.guard = none) (s x : Operand) (t tx : TypeId)
    (ho : o.op = .call { callee := .builtin .append, args := #[s, x], argTypes := #[t, tx] })
    (base : Nat) (e : TypeId) (i : TypeInfo) (z : Value) (size bytes : Nat) (ht : P.underlying t = some (.slice e)) (htx : P.underlying tx = some (.slice e)) (hi : P.info? e = some i) (hz : i.zero = some z)
    (hsize : i.size = size) (hby : i.bytes = bytes) (hzs : z.cells.size = size) (hsz : 0 < size)
    (v : Value) (n : Nat) (xs : List Value) (hs : a.eval s = v) (hown : w.ownsRow base e size v n xs)
    (A : Option Addr) (m c : Nat) (news : List Value) (hx : a.eval x = .slice A m c) (hl : news.length = m * size) (hA : A = none → m = 0) (hnews : ∀ ad, A = some ad → ∀ j u, news[j]? = some u → w.cell? (ad.add j) = some u) (h1 : ∀ u ∈ news, u.oneCell' = true)
    (h63 : n + m ≤ maxLen) (hbytes : (n + m) * bytes ≤ 140737488355328) (hbase : base ≤ w.heap.size)
    (h : ∀ v' w', w'.ownsRow base e size v' (n + m) (xs ++ news) → w.grownBy w' v.ownBlock → (v'.ownBlock = v.ownBlock ∨ v'.ownBlock = some w.heap.size) → wpList P ops Q rest (a.put o.dst v') w') :
    wpList P ops Q (o :: rest) a w := by
  cases A with
  | some ad => exact append_own_two hgd s x t tx ho base e i z size bytes ht htx hi hz hsize hby hzs hsz v n xs hs hown ad m c news hx hl (hnews ad rfl) h1 h63 hbytes hbase (fun v' w' h2 h3 _ h5 => h v' w' h2 h3 h5)
  | none =>
    obtain rfl := hA rfl
    obtain rfl : news = [] := List.eq_nil_of_length_eq_zero (by rw [hl, Nat.zero_mul])
    have hv : ∃ b k, v = .slice b n (n + k) := by
      obtain ⟨_, ⟨h2, h3⟩ | ⟨b, k, r, h2, _⟩⟩ := Own.ofRow hown
      · subst h3; exact ⟨none, 0, h2⟩
      · exact ⟨_, _, h2⟩
    obtain ⟨b, k, rfl⟩ := hv
    refine wpList_plain hgd fun K hK => ?_
    unfold Oper.wp execOp
    simp only [ho, resolve, invoke, builtin, Sem.run_bind, Sem.run_pure, Result.andThen_ok, List.map_toArray, List.map_cons, List.map_nil, hs, hx, append_nil_two P w t tx o.type e i b n k c ht htx hi]
    exact hK _ _ (h _ w (by rw [Nat.add_zero, List.append_nil]; exact hown) (World.grownBy.refl w _) (.inl rfl))
end Go.Proofs

namespace Go.Roar
open Go.RowKit Go.Proofs
theorem wpList_append_none {P : Program} {w : World} {ops : Array Oper} {rest : List Oper} {o : Oper} {a : Act} {Q : Exit → Act → World → Prop} (hgd : o.guard = none) (s x : Operand) (t : TypeId)
    (ho : o.op = .call { callee := .builtin .append, args := #[s, x], argTypes := #[t, t] })
    (e : TypeId) (i : TypeInfo) (ht : P.underlying t = some (.slice e)) (hi : P.info? e = some i)
    (b : Option Addr) (n k c : Nat) (hs : a.eval s = .slice b n (n + k)) (hx : a.eval x = .slice none 0 c)
    (h : wpList P ops Q rest (a.put o.dst (.slice b n (n + k))) w) : wpList P ops Q (o :: rest) a w := by
  refine wpList_plain hgd fun K hK => ?_
  unfold Oper.wp execOp
  simp only [ho, resolve, invoke, builtin, Sem.run_bind, Sem.run_pure, Result.andThen_ok, List.map_toArray, List.map_cons, List.map_nil, hs, hx, append_nil_two P w t t o.type e i b n k c ht ht hi]
  exact hK _ _ h
/-- append of a whole slice that owns its block, or of nil. -/
theorem wpList_append_sO {P : Program} {w : World} {ops : Array Oper} {rest : List Oper} {o : Oper} {a : Act} {Q : Exit → Act → World → Prop} (hgd : o.guard = none) (s x : Operand) (t : TypeId)
    (ho : o.op = .call { callee := .builtin .append, args := #[s, x], argTypes := #[t, t] })
    (e : TypeId) (i : TypeInfo) (z : Value) (size bytes : Nat) (ht : P.underlying t = some (.slice e)) (hi : P.info? e = some i) (hz : i.zero = some z)
    (hsize : i.size = size) (hby : i.bytes = bytes) (hzs : z.cells.size = size) (hsz : 0 < size)
    (w0 : World) (F0 : List Nat) (L R : List HA) (v : Value) (n : Nat) (xs : List Value) (hs : a.eval s = v) (hS : SS w0 F0 w (L ++ O size e v n xs :: R))
    (v2 : Value) (m : Nat) (news : List Value) (hO : Own w size e v2 m news) (hx : a.eval x = v2) (h1 : ∀ u ∈ news, u.oneCell' = true)
    (h63 : n + m ≤ maxLen) (hbytes : (n + m) * bytes ≤ 140737488355328)
    (h : ∀ v' w', SS w0 F0 w' (L ++ O size e v' (n + m) (xs ++ news) :: R) → wpList P ops Q rest (a.put o.dst v') w') : wpList P ops Q (o :: rest) a w := by
  obtain ⟨hl, ⟨rfl, rfl⟩ | ⟨g, k, r, rfl, hr, hm, hb⟩⟩ := hO
  · obtain rfl : news = [] := List.eq_nil_of_length_eq_zero (by simpa using hl)
    have hv : ∃ b k, v = .slice b n (n + k) := by
      obtain ⟨_, ⟨h2, h3⟩ | ⟨b, k, r, h2, _⟩⟩ := hS.get (A := O size e v n xs) (by simp)
      · subst h3; exact ⟨none, 0, h2⟩
      · exact ⟨_, _, h2⟩
    obtain ⟨b, k, rfl⟩ := hv
    exact wpList_append_none hgd s x t ho e i ht hi b n k 0 hs hx (h _ w (by simpa using hS))
  · refine wpList_append_ss hgd s x t ho e i z size bytes ht hi hz hsize hby hzs hsz w0 F0 L R v n xs hs hS ⟨g, 0, none⟩ m (m + k) news hx hl (fun j u hj => ?_) h1 h63 hbytes h
    exact Blk.news hb j u (by rw [List.getElem?_append_left (List.getElem?_eq_some_iff.1 hj).1]; exact hj)
theorem VS.fin {w W : World} {b : Nat} {t : TypeId} {cs : List Value} {v : Value} {d l : List (Nat × Nat)} (h : SS w [] W ([B b t cs] ++ O 2 114 v (d.length + l.length) (ivs d ++ ivs l) :: [])) : SS w [] (W.alloc (.cells #[v] 112)) (RC W.heap.size v (d ++ l)) := by
  have h1 := SS.new (SS.right (L := [B b t cs]) h) 112 [v]
  unfold RC
  rw [ivs_app, List.length_append]
  exact h1
/-- Where invert stands. -/
def VS (w wr : World) (a : List (Nat × Nat)) (k s : Nat) (v : Value) : Prop := ∃ d, VN a k s d ∧ SS w [] wr [O 2 114 v d.length (ivs d)]
end Go.Roar
namespace Go.Proofs
open Go.RowKit Go.Roar
attribute [local go_sem ↓] Go.wp_at_zero Go.wp_at_succ

/-- What invert answers. -/
def InvP (a : List (Nat × Nat)) (w : World) (ed : Ending) (w' : World) : Prop := ∃ z v m, ed = .returned (.pointer (some ⟨z, 0, none⟩)) ∧ RgOK 65536 m ∧ (∀ x, inR m x ↔ x < 65536 ∧ ¬ inR a x) ∧ SS w [] w' (RC z v m)

set_option maxRecDepth 100000 in
set_option maxHeartbeats 4000000 in
theorem invert_any (p : Nat) (a : List (Nat × Nat)) (w : World) (hA : RCV w p a) (ha : RgOK 65536 a) (ha0 : 0 < a.length) :
    Calls Tryz.prog 235 #[.pointer (some ⟨p, 0, none⟩)] w fun ed w' => InvP a w ed w' := by
  obtain ⟨iU, va1, va2, va3, va4⟩ := info_parts infoIv
  have hal := ha.many
  have RA := Lib.hid hA
  obtain ⟨g, c, hc, a0, a1⟩ := hA
  have HA := Lib.hid a1
  have OKa := Lib.hid ha
  clear a1 ha
  obtain ⟨n, hn⟩ : ∃ n, n = a.length := ⟨_, rfl⟩
  rw [← hn] at ha0 hal a0 hc
  have HN := Lib.hid hn
  clear hn
  by_cases h1 : n = 1
  · obtain ⟨r, hr⟩ : ∃ r, a[0]? = some r := ⟨_, List.getElem?_eq_getElem (by rw [← HN.out]; omega)⟩
    have hno : a[0 + 1]? = none := List.getElem?_eq_none (by rw [← HN.out]; omega)
    have HL := Lib.hid ((VN.start a).last OKa.out hr hno)
    have IL := Lib.hid (show Calls Tryz.prog 242 #[.pointer (some ⟨p, 0, none⟩), .int .u16 0, .int .i64 0] w fun ed w' => ∃ v, ed = .returned v ∧ SS w [] w' [O 2 114 v (lastV 0 r).length (ivs (lastV 0 r))] from invLast_any p 0 0 a r w RA.out OKa.out hr (Nat.zero_le _))
    subst h1
    clear hr hno
    go_enter Tryz.func235, Tryz.ntmps235
    go_wp2_with (first
      | (go_at_call 242; (with_reducible refine IL.out.mono ?_); rintro ed w1 ⟨v, rfl, h1⟩; have S1 := Lib.hid h1; obtain ⟨G, C, rfl, _⟩ := Own.sliceOf (h1.get (A := O 2 114 v (lastV 0 r).length (ivs (lastV 0 r))) (by simp)); clear h1)
      | fail)
    go_ret
    exact ⟨w1.heap.size, _, lastV 0 r, rfl, HL.out.1, HL.out.2, SS.new S1.out 112 [_]⟩
  · have i1 : ((n : Int) == 0) = false := by rw [beq_eq_false_iff_ne]; omega
    have i2 : ((n : Int) == 1) = false := by rw [beq_eq_false_iff_ne]; omega
    have i3 : ¬ (n : Int) = 0 := by omega
    have i4 : ¬ (n : Int) = 1 := by omega
    have q1 : IntKind.i64.wrap ((n : Int) - 1) = (n : Int) - 1 := IntWalk.i64_in _ (by omega)
    go_enter Tryz.func235, Tryz.ntmps235
    go_wp2_with fail
    go_loopw [4, 5, 34] (fun v s k wr => ∃ (K S : Nat), s = .int .i64 (S : Int) ∧ k = .int .i64 (K : Int) ∧ K < n ∧ Hid (VS w wr a K S v)) (fun _ _ k _ => n - (intOf k).toNat)
    case atStart => exact ⟨0, 0, rfl, rfl, ha0, Lib.hid ⟨[], VN.start a, SS.bare w 2 114⟩⟩
    case round =>
      obtain ⟨K, S, rfl, rfl, hK, HV⟩ := hrel
      obtain ⟨d, hV, hS⟩ := HV.out
      obtain ⟨G, C, rfl, _⟩ := Own.sliceOf (hS.get (A := O 2 114 u4 d.length (ivs d)) (by simp))
      have HVN := Lib.hid hV
      obtain ⟨r, hr⟩ : ∃ r, a[K]? = some r := ⟨_, List.getElem?_eq_getElem (by rw [← HN.out]; exact hK)⟩
      have r1 := rg_at OKa.out hr
      have hlow := hV.low r hr
      have hdm := hV.ok.many
      have km := hS.mild
      have a2 := km.cell2 id a0
      have x1 := km.cell2 id (HA.out K r hr).1
      have x2 := km.cell2 id (HA.out K r hr).2
      have S1 := hS.new 114 [.int .u16 (r.1 : Int), .int .u16 ((r.2 - r.1 : Nat) : Int)]
      have HS1 := Lib.hid S1
      have Hr := Lib.hid hr
      have j1 : (K : Int) < (n : Int) := by omega
      have w1 : IntKind.u16.wrap (S : Int) = (S : Int) := IntWalk.u16_in _ (by omega)
      clear HV hV hS km hr
      by_cases hl : K + 1 = n
      · have i5 : ((K : Int) == (n : Int) - 1) = true := by rw [beq_iff_eq]; omega
        have i6 : (K : Int) = (n : Int) - 1 := by omega
        have hno : a[K + 1]? = none := List.getElem?_eq_none (by rw [← HN.out]; omega)
        have HL := Lib.hid (HVN.out.last OKa.out Hr.out hno)
        have IL := Lib.hid (fun (W : World) (k : Mild w W) => invLast_any p K S a r W (RA.out.mild k) OKa.out Hr.out (by omega))
        have c1 := S1.cell 0 rfl 0 rfl
        clear hno S1 i6
        have hlv := lastV_le S r
        go_wp2_with (first
          | (go_at_call 242; refine (IL.out _ (SS.mild HS1.out)).mono ?_; rintro ed w2 ⟨v2, rfl, h2⟩; have S2 := HS1.out.join h2; have O2 := Lib.hid (S2.get (A := O 2 114 v2 (lastV S r).length (ivs (lastV S r))) (by simp)); have S3 := Lib.hid (SS.right (L := [O 2 114 v2 (lastV S r).length (ivs (lastV S r))]) S2); clear h2 S2)
          | (at_builtin; refine wpList_append_sO rfl (.tmp 42) (.tmp 47) 110 rfl 114 iU (.agg #[.int .u16 (0 : Int), .int .u16 (0 : Int)]) 2 4 undIvs va1 va2 va3 va4 rfl (by decide) w [] [B wr.heap.size 114 [.int .u16 (r.1 : Int), .int .u16 ((r.2 - r.1 : Nat) : Int)]] [] (.slice G d.length C) d.length (ivs d) rfl S3.out v2 (lastV S r).length (ivs (lastV S r)) O2.out rfl (ivs_one _) (by unfold maxLen; omega) (by omega) ?_; intro v5 w5 S5; have S6 := Lib.hid S5; obtain ⟨G5, C5, rfl, _⟩ := Own.sliceOf (S5.get (A := O 2 114 v5 (d.length + (lastV S r).length) (ivs d ++ ivs (lastV S r))) (by simp)); clear S5)
          | fail)
        go_ret
        exact ⟨w5.heap.size, _, d ++ lastV S r, rfl, HL.out.1, HL.out.2, VS.fin S6.out⟩
      · have i5 : ((K : Int) == (n : Int) - 1) = false := by rw [beq_eq_false_iff_ne]; omega
        have i6 : ¬ (K : Int) = (n : Int) - 1 := by omega
        obtain ⟨HN2, hN3⟩ := HVN.out.step OKa.out Hr.out
        have hr2 : r.2 + 1 < 65536 := by
          obtain ⟨r', hr'⟩ : ∃ r, a[K + 1]? = some r := ⟨_, List.getElem?_eq_getElem (by rw [← HN.out]; omega)⟩
          have := rg_lt OKa.out (Nat.lt_succ_self K) Hr.out hr'
          have := rg_at OKa.out hr'
          omega
        have HN2 := Lib.hid HN2
        have w2 : IntKind.u16.wrap ((r.2 : Int) + 1) = (r.2 : Int) + 1 := IntWalk.u16_in _ (by omega)
        have w3 : IntKind.i64.wrap ((r.2 : Int) + 1) = (r.2 : Int) + 1 := IntWalk.i64_in _ (by omega)
        have LR := Lib.hid (fun (W : World) => last_r r W r1)
        have c1 := S1.cell 0 rfl 0 rfl
        have c2 := S1.cell 0 rfl 1 rfl
        clear S1
        by_cases hz : 0 < r.1
        · have hs := hN3 hz
          have j5 : (0 : Int) < (r.1 : Int) := by omega
          have w4 : IntKind.u16.wrap ((r.1 : Int) - 1) = ((r.1 - 1 : Nat) : Int) := (IntWalk.u16_in _ (by omega)).trans (by omega)
          have CN := Lib.hid (fun (W : World) => newInterval_any S (r.1 - 1) W hs (by omega))
          have hvd : vnD d S r.1 = d ++ [(S, r.1 - 1)] := by unfold vnD; rw [if_pos hz]
          rw [hvd] at HN2
          clear hvd hN3 hlow
          go_wp2_with (first
            | (go_at_call 55; (with_reducible refine (CN.out _).mono ?_); rintro ed w6 ⟨rfl, hk⟩; have S2 := Lib.hid (HS1.out.quiet hk); clear hk)
            | (at_builtin; refine wpList_append_ss rfl (.tmp 52) (.tmp 59) 110 rfl 114 iU (.agg #[.int .u16 (0 : Int), .int .u16 (0 : Int)]) 2 4 undIvs va1 va2 va3 va4 rfl (by decide) w [] [B wr.heap.size 114 [.int .u16 (r.1 : Int), .int .u16 ((r.2 - r.1 : Nat) : Int)]] [] (.slice G d.length C) d.length (ivs d) rfl (S2.out.alloc _) ⟨w6.heap.size, 0, none⟩ 1 1 [.int .u16 (S : Int), .int .u16 ((r.1 - 1 - S : Nat) : Int)] rfl rfl (Blk.news (Blk.new _ _ _)) (by simp [Value.oneCell']) (by unfold maxLen; omega) (by omega) ?_; intro v5 w5 S5; have S6 := Lib.hid S5; have c3 := S5.cell 0 rfl 0 rfl; have c4 := S5.cell 0 rfl 1 rfl; clear S5)
            | (go_at_call 68; (with_reducible refine (LR.out _).mono ?_); rintro ed w7 ⟨rfl, hk⟩; have S7 := Lib.hid (SS.right (L := [B wr.heap.size 114 [.int .u16 (r.1 : Int), .int .u16 ((r.2 - r.1 : Nat) : Int)]]) (S6.out.quiet hk)); clear hk)
            | fail)
          go_roundw
          case rel =>
            refine ⟨K + 1, r.2 + 1, by go_num, by go_num, by omega, Lib.hid ⟨_, HN2.out, ?_⟩⟩
            have h7 := S7.out
            rw [ivs_app, List.length_append]
            exact h7
          case measure => simp only [intOf]; omega
        · have j5 : ¬ (0 : Int) < (r.1 : Int) := by omega
          have hvd : vnD d S r.1 = d := by unfold vnD; rw [if_neg hz]
          rw [hvd] at HN2
          clear hvd hN3 hlow
          go_wp2_with (first
            | (go_at_call 68; (with_reducible refine (LR.out _).mono ?_); rintro ed w7 ⟨rfl, hk⟩; have S7 := Lib.hid (SS.right (L := [B wr.heap.size 114 [.int .u16 (r.1 : Int), .int .u16 ((r.2 - r.1 : Nat) : Int)]]) (HS1.out.quiet hk)); clear hk)
            | fail)
          go_roundw
          case rel => exact ⟨K + 1, r.2 + 1, by go_num, by go_num, by omega, Lib.hid ⟨_, HN2.out, S7.out⟩⟩
          case measure => simp only [intOf]; omega
end Go.Proofs
