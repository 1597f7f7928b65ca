/-
  impl.told: the ranges that a set's numbers are told in.
-/
import Derived.Test.YtgohhikcmajmoaaGreatDoorKIn
import Derived.Test.YtgohhikcmajmoaaGreatDoorJQpl
import Derived.Maps.AppendAt
namespace Go.Roar
open Go.RowKit Go.Proofs

def rgCells (rs : List (Nat × Nat)) : List Value := rs.flatMap fun r => [.int .u32 ((r.1 : Nat) : Int), .int .u32 ((r.2 : Nat) : Int)]
theorem rgCells_append (a b : List (Nat × Nat)) : rgCells (a ++ b) = rgCells a ++ rgCells b := by simp [rgCells]
theorem rgCells_length (a : List (Nat × Nat)) : (rgCells a).length = a.length * 2 := by
  induction a with
  | nil => rfl
  | cons r l ih => rw [show r :: l = [r] ++ l from rfl, rgCells_append, List.length_append, ih]; simp [rgCells]; omega

theorem rgCells_inj : ∀ (a b : List (Nat × Nat)), rgCells a = rgCells b → a = b
  | [], [], _ => rfl
  | [], r :: l, h => by simp [rgCells] at h
  | r :: l, [], h => by simp [rgCells] at h
  | (r1, r2) :: l, (q1, q2) :: m, h => by
    simp only [rgCells, List.flatMap_cons, List.cons_append, List.nil_append, List.cons.injEq, Value.int.injEq, true_and] at h
    have e := rgCells_inj l m h.2.2
    have h1 : r1 = q1 := by omega
    have h2 : r2 = q2 := by omega
    rw [e, h1, h2]
theorem Own.sameAs {w : World} {size : Nat} {e : TypeId} {v : Value} {n m : Nat} {xs ys : List Value} (h : Own w size e v n xs) (k : Own w size e v m ys) : xs = ys := by
  obtain ⟨hl, h⟩ := h
  obtain ⟨kl, k⟩ := k
  rcases h with ⟨rfl, rfl⟩ | ⟨g, i, r, rfl, hr, hm, hb⟩
  · rcases k with ⟨_, rfl⟩ | ⟨g, i, r, hv, _⟩
    · rw [Nat.zero_mul] at hl kl
      rw [List.eq_nil_of_length_eq_zero hl, List.eq_nil_of_length_eq_zero kl]
    · simp at hv
  · rcases k with ⟨hv, _⟩ | ⟨g', i', r', hv, hr', hm', hb'⟩
    · simp at hv
    · simp only [Value.slice.injEq, Option.some.injEq, Addr.mk.injEq, and_true] at hv
      obtain ⟨rfl, rfl, _⟩ := hv
      unfold Blk at hb hb'
      rw [hb] at hb'
      simp only [Option.some.injEq, Obj.cells.injEq, and_true] at hb'
      have e : xs ++ r = ys ++ r' := congrArg Array.toList hb'
      exact (List.append_inj e (by omega)).1
theorem Own.form {w : World} {size : Nat} {e : TypeId} {v : Value} {n : Nat} {xs : List Value} (h : Own w size e v n xs) : ∃ A c, v = .slice A n c := by
  rcases h.2 with ⟨rfl, rfl⟩ | ⟨g, k, r, rfl, _⟩
  · exact ⟨_, _, rfl⟩
  · exact ⟨_, _, rfl⟩
/-- How many numbers the ranges tell that lie at v. -/
noncomputable def cnt (v : Value) (w : World) : Nat := open Classical in if h : ∃ out : List (Nat × Nat), Own w 2 38 v out.length (rgCells out) then rgCard h.choose else 0
theorem cnt_of {v : Value} {w : World} {out : List (Nat × Nat)} (h : Own w 2 38 v out.length (rgCells out)) : cnt v w = rgCard out := by
  unfold cnt
  have h' : ∃ out : List (Nat × Nat), Own w 2 38 v out.length (rgCells out) := ⟨out, h⟩
  rw [dif_pos h']
  rw [rgCells_inj _ _ (h'.choose_spec.sameAs h)]

/-- Ranges that are told: none empty, all below what is left. -/
def Fit (out : List (Nat × Nat)) (l : List Nat) : Prop := ∀ r ∈ out, r.1 ≤ r.2 ∧ ∀ y ∈ l, r.2 < y
theorem tell_cases (out : List (Nat × Nat)) (x : Nat) : (∃ l a, out = l ++ [(a, x - 1)] ∧ 0 < x ∧ tell out x = l ++ [(a, x)]) ∨ (tell out x = out ++ [(x, x)] ∧ ∀ l a b, out = l ++ [(a, b)] → b + 1 ≠ x) := by
  rcases List.eq_nil_or_concat out with rfl | ⟨m, ⟨a, b⟩, rfl⟩
  · exact .inr ⟨rfl, by simp⟩
  · rw [List.concat_eq_append]
    by_cases h : b + 1 = x
    · subst h; exact .inl ⟨m, a, by simp, by omega, tell_on m a b⟩
    · refine .inr ⟨tell_new m a b x h, fun l a' b' e => ?_⟩
      obtain ⟨_, e2⟩ := List.append_inj' e rfl
      simp at e2
      omega
theorem Fit.tell {out : List (Nat × Nat)} {x : Nat} {l : List Nat} (h : Fit out (x :: l)) (hs : (x :: l).Pairwise (· < ·)) : Fit (tell out x) l ∧ rgCard (tell out x) = rgCard out + 1 := by
  obtain ⟨h1, h2⟩ := List.pairwise_cons.1 hs
  rcases tell_cases out x with ⟨m, a, rfl, h0, e⟩ | ⟨e, _⟩
  · rw [e]
    have ha := (h (a, x - 1) (by simp)).1
    dsimp only at ha
    refine ⟨fun r hr => ?_, ?_⟩
    · rcases List.mem_append.1 hr with hr | hr
      · have := h r (by simp [hr])
        exact ⟨this.1, fun y hy => this.2 y (List.mem_cons_of_mem _ hy)⟩
      · simp at hr; subst hr; exact ⟨by dsimp only; omega, fun y hy => h1 y hy⟩
    · rw [rgCard_append, rgCard_append, rgCard_cons, rgCard_cons]; dsimp only; omega
  · rw [e]
    refine ⟨fun r hr => ?_, ?_⟩
    · rcases List.mem_append.1 hr with hr | hr
      · have := h r hr
        exact ⟨this.1, fun y hy => this.2 y (List.mem_cons_of_mem _ hy)⟩
      · simp at hr; subst hr; exact ⟨Nat.le_refl _, fun y hy => h1 y hy⟩
    · rw [rgCard_append, rgCard_cons]; simp [rgCard]

/-- At the head of the loop: l left, the ranges 'out' told. -/
structure TInv (w0 w : World) (I p : Nat) (ps : List (Nat × List Nat)) (v : Value) (l : List Nat) (out : List (Nat × Nat)) : Prop where
  own : Own w 2 38 v out.length (rgCells out)
  it : ∃ cs, It w w0.heap.size I p ps cs l
  whole : Whole w w0.heap.size p ps
  kept : Mild w0 w
  off : ∀ b ∈ blkOf v, w0.heap.size ≤ b ∧ b ≠ I
  fit : Fit out l
  card : rgCard out + l.length = (nums ps).length
end Go.Roar
namespace Go.Proofs
open Go.RowKit Go.Roar

theorem cell_two_new (w : World) (x y : Value) (t : TypeId) : ∀ j u, [x, y][j]? = some u → (w.alloc (.cells #[x, y] t)).cell? ((⟨w.heap.size, 0, none⟩ : Addr).add j) = some u := by
  intro j u hj
  match j, hj with
  | 0, hj => simp at hj; subst hj; simp [Addr.add]
  | 1, hj => simp at hj; subst hj; simp [Addr.add]
  | j + 2, hj => simp at hj
theorem infoSpan : (Tryz.prog.info? 38).map (fun i => (i.zero, i.size, i.bytes)) = some (some (.agg #[.int .u32 0, .int .u32 0]), 2, 8) := by kernel_rfl
theorem undSpans : Tryz.prog.underlying 22 = some (.slice 38) := by kernel_rfl
theorem ahead_hn (a : Addr) (w : World) : (nilAhead 303 86 (.pointer (some a)) "HasNext").run Tryz.prog w = .ok (some false) w := by kernel_rfl
theorem method_hn (a : Addr) (w : World) : (method 303 86 (.pointer (some a)) "HasNext").run Tryz.prog w = .ok (227, .pointer (some a)) w := by kernel_rfl
theorem ahead_nx (a : Addr) (w : World) : (nilAhead 303 86 (.pointer (some a)) "Next").run Tryz.prog w = .ok (some false) w := by kernel_rfl
theorem method_nx (a : Addr) (w : World) : (method 303 86 (.pointer (some a)) "Next").run Tryz.prog w = .ok (228, .pointer (some a)) w := by kernel_rfl

set_option maxRecDepth 100000 in
set_option maxHeartbeats 2000000 in
theorem told_any (p : Nat) (ps : List (Nat × List Nat)) (w : World) (hW : Whole w w.heap.size p ps) (hs : (nums ps).Pairwise (· < ·)) (hb : ∀ x ∈ nums ps, x < 4294967296) (hN : (nums ps).length ≤ 1000000) :
    Calls Tryz.prog 14 #[.pointer (some ⟨p, 0, none⟩)] w fun e w' => ∃ v, e = .returned v ∧ Own w' 2 38 v ((nums ps).foldl tell []).length (rgCells ((nums ps).foldl tell [])) ∧ Mild w w' ∧ (∀ b ∈ blkOf v, w.heap.size ≤ b) := by
  obtain ⟨iS, u1, u2, u3, u4⟩ := info_parts infoSpan
  have C0 := Lib.hid (bmIter_any p ps w hW)
  have HW := Lib.hid hW
  have Hs := Lib.hid hs
  have Hb := Lib.hid hb
  have n1 := ahead_hn ⟨w.heap.size, 0, none⟩
  have n2 := method_hn ⟨w.heap.size, 0, none⟩
  have n3 := ahead_nx ⟨w.heap.size, 0, none⟩
  have n4 := method_nx ⟨w.heap.size, 0, none⟩
  clear hW hs hb
  go_enter Tryz.func14, Tryz.ntmps14
  go_wp2_with (first
    | (go_at_call 28; refine C0.out.mono ?_; rintro ed w1 ⟨rfl, k1, it1⟩))
  have Hit := Lib.hid it1
  clear it1
  have HN := Lib.hid hN
  clear hN
  go_loopw [3] (fun v wr => ∃ (l : List Nat) (d : List Nat), Hid (nums ps = d ++ l) ∧ Hid (TInv w wr w.heap.size p ps v l (d.foldl tell []))) (fun v wr => (nums ps).length - cnt v wr)
  case atStart => exact ⟨nums ps, [], Lib.hid rfl, Lib.hid ⟨Own.nil _ _ _, Hit.out, HW.out.kept k1 (fun _ _ => id), k1, by simp, fun r hr => by simp at hr, by simp [rgCard]⟩⟩
  case round =>
    obtain ⟨l, d, Hd, HI⟩ := hrel
    obtain ⟨cs, it⟩ := HI.out.it
    have C1 := Lib.hid (iiHas_any w.heap.size w.heap.size p ps wr cs l it HI.out.whole)
    have Hit2 := Lib.hid it
    clear it Hit C0
    rcases l with _ | ⟨x, l⟩
    · have e : decide (([] : List Nat) ≠ []) = false := by simp
      rw [e] at C1
      go_wp2_with (first
        | (go_at_call 227; refine C1.out.mono ?_; rintro ed w2 ⟨rfl, k2⟩))
      go_ret
      have hd := Hd.out
      rw [List.append_nil] at hd
      rw [hd]
      exact ⟨_, rfl, HI.out.own.kept k2 (fun _ _ => id), HI.out.kept.trans k2, fun b hb => (HI.out.off b hb).1⟩
    · have e : decide ((x :: l) ≠ []) = true := by simp
      rw [e] at C1
      clear e
      have hd := Hd.out
      have hx32 : x < 4294967296 := Hb.out x (by rw [hd]; simp)
      have hpw : (x :: l).Pairwise (· < ·) := by have := Hs.out; rw [hd] at this; exact (List.pairwise_append.1 this).2.1
      have ft := HI.out.fit.tell hpw
      have HF := Lib.hid ft
      have hcard := HI.out.card
      have hol := tells_length d []
      have hdl : d.length + (l.length + 1) = (nums ps).length := by rw [hd]; simp
      have hN := HN.out
      have hlen : (d.foldl tell []).length ≤ 1000000 := by simp at hol; omega
      have Hcard := Lib.hid hcard
      have HHd : Hid (nums ps = (d ++ [x]) ++ l) := Lib.hid (by rw [hd]; simp)
      have hfo : (d ++ [x]).foldl tell [] = tell (d.foldl tell []) x := by rw [List.foldl_append]; rfl
      have HFo := Lib.hid hfo
      have C2 := Lib.hid (fun (w2 : World) (k2 : Mild wr w2) => iiNext_any w.heap.size w.heap.size p ps x w2 cs l (Hit2.out.kept k2 (fun _ _ => id) id) (HI.out.whole.kept k2 (fun _ _ => id)) (Nat.le_refl _))
      have ho := HI.out.own
      have hoff := HI.out.off
      have HT := Lib.hid (tell_cases (d.foldl tell []) x)
      have hcnt := cnt_of ho
      have Hcnt := Lib.hid hcnt
      clear hd hpw ft hcard hol hdl hN hfo hcnt Hd Hit2
      generalize d.foldl tell [] = out at *
      have hK3 : ∀ w2 w3 : World, Mild wr w2 → Kept (fun k => k = w.heap.size) w2 w3 → Kept (fun k => k = w.heap.size) wr w3 := fun w2 w3 a b => (a.mono (fun _ _ => False.elim)).trans b
      have HK3 := Lib.hid hK3
      clear hK3
      rcases HT.out with ⟨m, a, ho2, h0, e⟩ | ⟨e, hne⟩
      · obtain ⟨g, k, r, rfl, hr, hm, hbk⟩ := ho.open (by rw [ho2]; simp)
        have hml : out.length = m.length + 1 := by rw [ho2]; simp
        rw [hml] at hm
        have hcx : (rgCells out ++ r)[m.length * 2 + 1]? = some (.int .u32 ((x - 1 : Nat) : Int)) := by
          rw [ho2, rgCells_append, List.append_assoc, List.getElem?_append_right (by rw [rgCells_length]; omega), rgCells_length]
          simp [rgCells]
        have hset : (rgCells out ++ r).set (m.length * 2 + 1) (.int .u32 (x : Int)) = rgCells (tell out x) ++ r := by
          rw [e, ho2, rgCells_append, rgCells_append, List.append_assoc, List.append_assoc, List.set_append_right _ _ (by rw [rgCells_length]; omega), rgCells_length]
          simp [rgCells]
        have hlt : (tell out x).length = m.length + 1 := by rw [e]; simp
        have hg1 := hoff g (by simp)
        have gne : ¬ g = w.heap.size := hg1.2
        have cc := (hbk.cell (m.length * 2 + 1)).trans hcx
        have Hbk := Lib.hid hbk
        have Hset := Lib.hid hset
        have He := Lib.hid e
        have w1 : IntKind.u32.wrap (((x - 1 : Nat) : Int) + 1) = (x : Int) := by rw [IntWalk.u32_in _ (by omega)]; omega
        have x0 : ((x : Int) != 0) = true := by simp; omega
        have hmm : m.length ≤ 1000000 := by omega
        clear hbk hset hcx ho hoff e
        rw [hml]
        generalize m.length = ml at *
        go_wp2_with (first
          | (go_at_call 227; refine C1.out.mono ?_; rintro ed w2 ⟨rfl, k2⟩)
          | (go_at_call 228; refine (C2.out w2 k2).mono ?_; rintro ed w3 ⟨rfl, k3, it3⟩; have k23 := HK3.out w2 w3 k2 k3; have cc3 := k23.cell2 gne cc; have hb3 := Hbk.out.kept k23 gne; have fr := hb3.free (ml * 2 + 1)))
        have hb4 := hb3.set (ml * 2 + 1) (.int .u32 (x : Int))
        rw [Hset.out] at hb4
        have own4 : Own (w3.setCell ⟨g, ml * 2 + 1, none⟩ (.int .u32 (x : Int))) 2 38 (.slice (some ⟨g, 0, none⟩) (ml + 1) (ml + 1 + k)) (tell out x).length (rgCells (tell out x)) :=
          ⟨rgCells_length _, .inr ⟨g, k, r, by rw [hlt], hr, by rw [hlt]; exact hm, hb4⟩⟩
        have hks : Kept (fun b => b = g) w3 (w3.setCell ⟨g, ml * 2 + 1, none⟩ (.int .u32 (x : Int))) := Kept.one w3 g _ _
        have hci := Hcnt.out
        rw [hml] at hci
        refine ⟨⟨l, d ++ [x], HHd, Lib.hid ?_⟩, ?_⟩
        · rw [HFo.out]
          refine ⟨own4, ?_, (HI.out.whole.kept k23 (fun b hb => by omega)).kept hks (fun b hb => by omega), Kept.then (Kept.then HI.out.kept k23 (fun b hb h => by omega)) hks (fun b hb h => by omega), ?_, HF.out.1, by rw [HF.out.2]; have := Hcard.out; simp at this; omega⟩
          · obtain ⟨cs', h⟩ := it3; exact ⟨cs', h.kept hks (fun b hb => by omega) (by omega)⟩
          · intro b hb; simp at hb; subst hb; exact hg1
        · rw [cnt_of own4, hci, HF.out.2]
          have := Hcard.out
          simp at this
          omega
      · have He := Lib.hid e
        have hlt : (tell out x).length = out.length + 1 := by rw [e]; simp
        have hcells : rgCells (tell out x) = rgCells out ++ [.int .u32 (x : Int), .int .u32 (x : Int)] := by rw [e, rgCells_append]; rfl
        have Hce := Lib.hid hcells
        have Hlt := Lib.hid hlt
        clear e hcells hlt
        have Hown := Lib.hid ho
        rcases List.eq_nil_or_concat out with rfl | ⟨m, ⟨a, b⟩, hm⟩
        · obtain ⟨A, c, rfl⟩ := ho.form
          clear ho hoff
          go_wp2_with (first
            | (go_at_call 227; refine C1.out.mono ?_; rintro ed w2 ⟨rfl, k2⟩)
            | (go_at_call 228; refine (C2.out w2 k2).mono ?_; rintro ed w3 ⟨rfl, k3, it3⟩; have k23 := HK3.out w2 w3 k2 k3; have own3 := Hown.out.kept k23 (fun b hb => (HI.out.off b hb).2))
            | (at_builtin; refine wpList_append_own_at _ rfl _ _ 22 rfl 0 38 iS (.agg #[.int .u32 0, .int .u32 0]) 2 8 undSpans u1 u2 u3 u4 rfl (by decide) _ 0 [] rfl (own3.alloc _).toRow ⟨w3.heap.size, 0, none⟩ 1 1 [.int .u32 (x : Int), .int .u32 (x : Int)] rfl rfl (cell_two_new _ _ _ _) (by intro u hu; simp at hu; rcases hu with rfl | rfl <;> rfl) (by unfold maxLen; omega) (by omega) (Nat.zero_le _) ?_; intro v' w4 hown' hgrow hnil hat))
          have own4 := Own.ofRow hown'
          rw [show 0 + 1 = (tell [] x).length from rfl] at own4
          have kA : Mild w3 (w3.alloc (.cells #[.int .u32 (x : Int), .int .u32 (x : Int)] 38)) := (Kept.refl _ _).alloc _
          replace hgrow : (w3.alloc (.cells #[.int .u32 (x : Int), .int .u32 (x : Int)] 38)).grownBy w4 (Value.ownBlock (.slice A 0 c)) := hgrow
          replace hat : v'.ownBlock = Value.ownBlock (.slice A 0 c) ∨ v'.ownBlock = some (w3.alloc (.cells #[.int .u32 (x : Int), .int .u32 (x : Int)] 38)).heap.size := hat
          have kG := Kept.grown (S := fun b => b ∈ blkOf (.slice A 0 c)) (kA.mono (fun _ _ => False.elim)) hgrow (fun kk hk _ => by rw [show blkOf (.slice A 0 c) = (Value.ownBlock (.slice A 0 c)).toList from rfl, hk]; simp)
          have hsz := k23.size
          have hszw := HI.out.kept.size
          have hIsz : w.heap.size < wr.heap.size := by obtain ⟨_, h⟩ := HI.out.it; exact h.blk.lt
          have hoff' := HI.out.off
          refine ⟨⟨l, d ++ [x], HHd, Lib.hid ?_⟩, ?_⟩
          · rw [HFo.out]
            refine ⟨own4, ?_, (HI.out.whole.kept k23 (fun b hb => by omega)).kept kG (fun b hb h => by have := (hoff' b h).1; omega), Kept.then (Kept.then HI.out.kept k23 (fun b hb h => by omega)) kG (fun b hb h => by have := (hoff' b h).1; omega), ?_, HF.out.1, by rw [HF.out.2]; have := Hcard.out; simp at this ⊢; omega⟩
            · obtain ⟨cs', h⟩ := it3; exact ⟨cs', h.kept kG (fun b hb h => by have := (hoff' b h).1; omega) (fun h => (hoff' _ h).2 rfl)⟩
            · intro b hb
              rcases hat with h | h
              · exact hoff' b (by show b ∈ (Value.ownBlock (.slice A 0 c)).toList; rw [← h]; exact hb)
              · unfold blkOf at hb; rw [h] at hb; simp at hb; subst hb; omega
          · rw [cnt_of own4, Hcnt.out, HF.out.2]
            have := Hcard.out
            simp at this ⊢
            omega
        · rw [List.concat_eq_append] at hm
          obtain ⟨g, k, r, rfl, hr, hk, hbk⟩ := ho.open (by rw [hm]; simp)
          have hml : out.length = m.length + 1 := by rw [hm]; simp
          have hcx : (rgCells out ++ r)[m.length * 2 + 1]? = some (.int .u32 (b : Int)) := by
            rw [hm, rgCells_append, List.append_assoc, List.getElem?_append_right (by rw [rgCells_length]; omega), rgCells_length]
            simp [rgCells]
          have hbx : b + 1 < x := by
            have h1 := (HI.out.fit (a, b) (by rw [hm]; simp)).2 x (by simp)
            have h2 := hne m a b hm
            dsimp only at h1
            omega
          have gne : ¬ g = w.heap.size := (hoff g (by simp)).2
          have cc := (hbk.cell (m.length * 2 + 1)).trans hcx
          have w1 : IntKind.u32.wrap ((b : Int) + 1) = (b : Int) + 1 := IntWalk.u32_in _ (by omega)
          have x0 : ((b : Int) + 1 == (x : Int)) = false := by simp; omega
          clear ho hoff hbk hcx hne
          generalize out.length = ol at *
          subst hml
          generalize m.length = ml at *
          go_wp2_with (first
            | (go_at_call 227; refine C1.out.mono ?_; rintro ed w2 ⟨rfl, k2⟩)
            | (go_at_call 228; refine (C2.out w2 k2).mono ?_; rintro ed w3 ⟨rfl, k3, it3⟩; have k23 := HK3.out w2 w3 k2 k3; have own3 := Hown.out.kept k23 (fun b hb => (HI.out.off b hb).2); have cc3 := k23.cell2 gne cc)
            | (at_builtin; refine wpList_append_own_at _ rfl _ _ 22 rfl 0 38 iS (.agg #[.int .u32 0, .int .u32 0]) 2 8 undSpans u1 u2 u3 u4 rfl (by decide) _ (ml + 1) (rgCells out) rfl (own3.alloc _).toRow ⟨w3.heap.size, 0, none⟩ 1 1 [.int .u32 (x : Int), .int .u32 (x : Int)] rfl rfl (cell_two_new _ _ _ _) (by intro u hu; simp at hu; rcases hu with rfl | rfl <;> rfl) (by unfold maxLen; omega) (by omega) (Nat.zero_le _) ?_; intro v' w4 hown' hgrow hnil hat))
          have own4 := Own.ofRow hown'
          rw [← Hce.out, ← Hlt.out] at own4
          have kA : Mild w3 (w3.alloc (.cells #[.int .u32 (x : Int), .int .u32 (x : Int)] 38)) := (Kept.refl _ _).alloc _
          replace hgrow : (w3.alloc (.cells #[.int .u32 (x : Int), .int .u32 (x : Int)] 38)).grownBy w4 (Value.ownBlock (.slice (some ⟨g, 0, none⟩) (ml + 1) (ml + 1 + k))) := hgrow
          replace hat : v'.ownBlock = Value.ownBlock (.slice (some ⟨g, 0, none⟩) (ml + 1) (ml + 1 + k)) ∨ v'.ownBlock = some (w3.alloc (.cells #[.int .u32 (x : Int), .int .u32 (x : Int)] 38)).heap.size := hat
          have kG := Kept.grown (S := fun b => b ∈ blkOf (.slice (some ⟨g, 0, none⟩) (ml + 1) (ml + 1 + k))) (kA.mono (fun _ _ => False.elim)) hgrow (fun kk hk _ => by rw [show blkOf (.slice (some ⟨g, 0, none⟩) (ml + 1) (ml + 1 + k)) = (Value.ownBlock (.slice (some ⟨g, 0, none⟩) (ml + 1) (ml + 1 + k))).toList from rfl, hk]; simp)
          have hsz := k23.size
          have hszw := HI.out.kept.size
          have hIsz : w.heap.size < wr.heap.size := by obtain ⟨_, h⟩ := HI.out.it; exact h.blk.lt
          have hoff' := HI.out.off
          refine ⟨⟨l, d ++ [x], HHd, Lib.hid ?_⟩, ?_⟩
          · rw [HFo.out]
            refine ⟨own4, ?_, (HI.out.whole.kept k23 (fun b hb => by omega)).kept kG (fun b hb h => by have := (hoff' b h).1; omega), Kept.then (Kept.then HI.out.kept k23 (fun b hb h => by omega)) kG (fun b hb h => by have := (hoff' b h).1; omega), ?_, HF.out.1, by rw [HF.out.2]; have := Hcard.out; simp at this ⊢; omega⟩
            · obtain ⟨cs', h⟩ := it3; exact ⟨cs', h.kept kG (fun b hb h => by have := (hoff' b h).1; omega) (fun h => (hoff' _ h).2 rfl)⟩
            · intro b hb
              rcases hat with h | h
              · exact hoff' b (by show b ∈ (Value.ownBlock (.slice (some ⟨g, 0, none⟩) (ml + 1) (ml + 1 + k))).toList; rw [← h]; exact hb)
              · unfold blkOf at hb; rw [h] at hb; simp at hb; subst hb; omega
          · rw [cnt_of own4, Hcnt.out, HF.out.2]
            have := Hcard.out
            simp at this ⊢
            omega
end Go.Proofs
