/-
  impl.Many: a set's numbers by as many as some sizes at once.
-/
import Derived.Test.YteagcndpegdojaaGreatDoorJNmi
import Derived.Test.YteagcndpegdojaaGreatDoorJMd
import Derived.Test.YteagcndpegdojaaGreatDoorJOre
import Derived.Test.YteagcndpegdojaaGreatDoorJAp2
import Derived.Test.YteagcndpegdojaaGreatDoorJBn
namespace Go.Roar
open Go.RowKit Go.Proofs
/-- The pieces of a list, each of its size. -/
def pcs : List Nat → List Nat → List (List Nat)
  | [], _ => []
  | n :: ns, T => T.take n :: pcs ns (T.drop n)
theorem pcs_concat (ns : List Nat) (n : Nat) (T : List Nat) : pcs (ns ++ [n]) T = pcs ns T ++ [(T.drop ns.sum).take n] := by
  induction ns generalizing T with
  | nil => simp [pcs]
  | cons m ns ih =>
    rw [List.cons_append]
    unfold pcs
    rw [ih, List.cons_append, List.sum_cons, ← List.drop_drop]
theorem pcs_length (ns T : List Nat) : (pcs ns T).length = ns.length := by
  induction ns generalizing T with
  | nil => rfl
  | cons m ns ih => unfold pcs; rw [List.length_cons, ih, List.length_cons]
theorem take_min {l : List Nat} {k n : Nat} (h : k = min n l.length) : l.take k = l.take n ∧ l.drop k = l.drop n := by
  rcases Nat.lt_or_ge n l.length with h1 | h1
  · obtain rfl : k = n := by omega
    exact ⟨rfl, rfl⟩
  · obtain rfl : k = l.length := by omega
    rw [List.take_length, List.take_of_length_le h1, List.drop_length, List.drop_eq_nil_of_le h1]
    exact ⟨rfl, rfl⟩
theorem sp_at {X ys : List Nat} {i x : Nat} (h : ys[i]? = some x) : (sp X 0 ys)[i]? = some x := by
  unfold sp
  rw [List.take_zero, List.nil_append, List.getElem?_append_left (List.getElem?_eq_some_iff.1 h).1]
  exact h
/-- Buffers that hold pieces, apart from block I and from the row v. -/
def Bufs (w : World) (I : Nat) (v : Value) (vals : List Value) (ps : List (List Nat)) : Prop :=
  vals.length = ps.length ∧ ∀ (j : Nat) (P : List Nat), ps[j]? = some P → ∃ g c, vals[j]? = some (.slice (some ⟨g, 0, none⟩) P.length c) ∧ g < w.heap.size ∧ g ≠ I ∧ g ∉ blkOf v ∧ ∀ (i x : Nat), P[i]? = some x → w.cell? ⟨g, i, none⟩ = some (.int .u32 (x : Int))
theorem Bufs.step {w w' : World} {I : Nat} {v v' : Value} {vals : List Value} {ps : List (List Nat)} {S : Nat → Prop} (h : Bufs w I v vals ps) (k : Kept S w w') (hS : ∀ b, S b → b = I ∨ b ∈ blkOf v ∨ w.heap.size ≤ b) (hv : ∀ b ∈ blkOf v', b ∈ blkOf v ∨ w.heap.size ≤ b) : Bufs w' I v' vals ps := by
  refine ⟨h.1, fun j P hP => ?_⟩
  obtain ⟨g, c, a1, a2, a3, a4, a5⟩ := h.2 j P hP
  refine ⟨g, c, a1, Nat.lt_of_lt_of_le a2 k.size, a3, fun hg => ?_, fun i x hx => k.cell2 (fun hs => ?_) (a5 i x hx)⟩
  · rcases hv g hg with h1 | h1
    · exact a4 h1
    · omega
  · rcases hS g hs with h1 | h1 | h1
    · exact a3 h1
    · exact a4 h1
    · omega
theorem Bufs.add {w : World} {I g c : Nat} {v : Value} {vals : List Value} {ps : List (List Nat)} {P : List Nat} (h : Bufs w I v vals ps) (h1 : g < w.heap.size) (h2 : g ≠ I) (h3 : g ∉ blkOf v) (h4 : ∀ (i x : Nat), P[i]? = some x → w.cell? ⟨g, i, none⟩ = some (.int .u32 (x : Int))) : Bufs w I v (vals ++ [.slice (some ⟨g, 0, none⟩) P.length c]) (ps ++ [P]) := by
  refine ⟨by rw [List.length_append, List.length_append, h.1]; rfl, fun j Q hQ => ?_⟩
  rcases Nat.lt_or_ge j ps.length with hj | hj
  · rw [List.getElem?_append_left hj] at hQ
    obtain ⟨g', c', a1, a2⟩ := h.2 j Q hQ
    exact ⟨g', c', by rw [List.getElem?_append_left (by rw [h.1]; exact hj)]; exact a1, a2⟩
  · rw [List.getElem?_append_right hj] at hQ
    obtain ⟨rfl, h5⟩ : Q = P ∧ j = ps.length := by
      rcases hd : j - ps.length with _ | d
      · rw [hd] at hQ; simp at hQ; exact ⟨hQ.symm, by omega⟩
      · rw [hd] at hQ; simp at hQ
    exact ⟨g, c, by rw [List.getElem?_append_right (by rw [h.1]; exact hj), h.1, h5, Nat.sub_self]; rfl, h1, h2, h3, h4⟩
end Go.Roar
namespace Go.Proofs
open Go.RowKit Go.Roar
theorem infoU32m : (Tryz.prog.info? 23).map (fun i => (i.zero, i.size, i.bytes)) = some (some (.int .u32 0), 1, 4) := by kernel_rfl
theorem infoU32s : (Tryz.prog.info? 43).map (fun i => (i.zero, i.size, i.bytes)) = some (some (.slice none 0 0), 1, 24) := by kernel_rfl
theorem undU32ss : Tryz.prog.underlying 41 = some (.slice 43) := by kernel_rfl
theorem ahead_nm (a : Addr) (w : World) : (nilAhead 324 84 (.pointer (some a)) "NextMany").run Tryz.prog w = .ok (some false) w := by kernel_rfl
theorem method_nm (a : Addr) (w : World) : (method 324 84 (.pointer (some a)) "NextMany").run Tryz.prog w = .ok (99, .pointer (some a)) w := by kernel_rfl
theorem bit1m : ∀ m : Nat, m < 2 → bits .and .i64 (m : Int) 1 = (m : Int) := by
  intro m hm
  rcases (show m = 0 ∨ m = 1 by omega) with rfl | rfl <;> decide
theorem made_u32s (n : Nat) : (madeCells (Value.int IntKind.u32 0).cells (n * 1)).toList = u32s (List.replicate n 0) := by
  rw [Nat.mul_one]
  have h := List.eq_replicate_iff.2 ⟨made_length (Value.int IntKind.u32 0) n, made_all (Value.int IntKind.u32 0) n rfl⟩
  rw [h]; simp [u32s]
/-- What impl.Many leads to. -/
def IMP (Ls T : List Nat) (w : World) (e : Ending) (w' : World) : Prop :=
  ∃ v vals I, e = .returned v ∧ Own w' 1 43 v Ls.length vals ∧ Bufs w' I v vals (pcs Ls T) ∧ Mild w w'

set_option maxRecDepth 100000 in
set_option maxHeartbeats 4000000 in
theorem implMany_any (u sv : Value) (rs s : List (Nat × Nat)) (Ls : List Nat) (m : Nat) (w : World) (h : Spans w u rs s) (hsv : NV w sv (w64s Ls)) (hLs : ∀ x ∈ Ls, 1 ≤ x ∧ x ≤ 500) (hl : Ls.length ≤ 20) (hm : m < 2) :
    Calls Tryz.prog 12 #[u, sv, .int .i64 (m : Int)] w (IMP Ls (rgNums s) w) := by
  obtain ⟨iU, zz1, zz2, zz3, zz4⟩ := info_parts infoU32m
  obtain ⟨iS, ys1, ys2, ys3, ys4⟩ := info_parts infoU32s
  have FT := Lib.hid (fits_of h rfl)
  have H := Lib.hid h
  obtain ⟨A, c, hu, _⟩ := h.sg
  obtain ⟨SA, sc, hsv1, hsv2⟩ := hsv
  have hsl : (w64s Ls).length = Ls.length := by simp [w64s]
  rw [hsl] at hsv1
  have HSV := Lib.hid hsv2
  have HLS := Lib.hid hLs
  clear h hsl hsv2 hLs
  subst hu hsv1
  obtain ⟨nl, hnl⟩ : ∃ nl, nl = Ls.length := ⟨_, rfl⟩
  rw [← hnl] at hl ⊢
  have HNL := Lib.hid hnl
  clear hnl
  have k0 := bit1m m hm
  have i1 : ¬ (20 : Int) < (nl : Int) := by omega
  have n1 := fun (z : Nat) => ahead_nm ⟨z, 0, none⟩
  have n2 := fun (z : Nat) => method_nm ⟨z, 0, none⟩
  obtain ⟨T, hT⟩ : ∃ T, T = rgNums s := ⟨_, rfl⟩
  rw [← hT]
  have HT := Lib.hid hT
  clear hT
  go_enter Tryz.func12, Tryz.ntmps12
  go_wp2_with (first
    | (go_at_call 16; (with_reducible refine FT.out.mono ?_); rintro ed w1 ⟨rfl, hm⟩; have M1 := Lib.hid hm; clear hm)
    | (go_at_call 17; (with_reducible refine (made_of (H.out.mild M1.out) _).mono ?_); rintro ed w2 ⟨p, vk, vc, vw, q, rfl, s1, s2, s3, s4, s5⟩; have S1 := Lib.hid s1; have S2 := Lib.hid s2; have S4 := Lib.hid s4; clear s1 s2 s3 s4 s5; have WH := Lib.hid (whole_of (H := w2.heap.size) S1.out.sep S2.out (H.out.mild (M1.out.trans S1.out.mild)).tab (H.out.mild (M1.out.trans S1.out.mild)).tabs S1.out.sep.lt))
    | (go_at_call 22; (with_reducible refine (bmMany_any p (psOf q) w2 WH.out).mono ?_); rintro ed w3 ⟨rfl, k3, cs3, it3⟩; have K3 := Lib.hid k3; have It3 := Lib.hid it3; clear k3 it3; have WH3 := Lib.hid (WH.out.kept K3.out (fun _ _ => id)))
    | fail)
  have hL : nums (psOf q) = T := (nums_allN _).trans (S4.out.trans HT.out.symm)
  have It5 : Hid (MIt w3 w2.heap.size w2.heap.size p (psOf q) cs3 T) := Lib.hid (by rw [← hL]; exact It3.out)
  have sz1 := M1.out.size
  have sz2 := S1.out.mild.size
  have sz3 := K3.out.size
  have hI3 := It5.out.blk.lt
  have KW := Lib.hid (show Mild w w3 from (M1.out.trans S1.out.mild).trans K3.out)
  have hIw : w.heap.size ≤ w2.heap.size := by omega
  clear hL It3 K3 WH S1 S2 S4 FT sz1 sz2 sz3 n1 n2
  have n1 := ahead_nm ⟨w2.heap.size, 0, none⟩
  have n2 := method_nm ⟨w2.heap.size, 0, none⟩
  generalize w2.heap.size = I at *
  generalize psOf q = ps at *
  go_loopw [29, 7] (fun i v wr => ∃ (k : Nat) (vals : List Value) (cs : List Value), i = .int .i64 k ∧ k ≤ nl ∧ Hid (Own wr 1 43 v k vals) ∧ Hid (Bufs wr I v vals (pcs (Ls.take k) T)) ∧ Hid (MIt wr I I p ps cs (T.drop (Ls.take k).sum)) ∧ Hid (Kept (fun b => b = I) w3 wr) ∧ Hid (∀ b ∈ blkOf v, w3.heap.size ≤ b)) (fun i _ _ => nl - (intOf i).toNat)
  case atStart => exact ⟨0, [], cs3, rfl, Nat.zero_le _, Lib.hid (Own.nil _ _ _), Lib.hid ⟨rfl, fun j P h => by simp [pcs] at h⟩, Lib.hid (by simpa using It5.out), Lib.hid (Kept.refl _ _), Lib.hid (by simp)⟩
  case round =>
    obtain ⟨k, vals, cs, rfl, hk, Ho, HBf, Hit, HK, Hf⟩ := hrel
    obtain ⟨A2, c2, rfl⟩ := Own.form Ho.out
    have W4 := Lib.hid (WH3.out.kept HK.out (fun b hb h => by omega))
    by_cases hkn : k < nl
    · have j1 : (k : Int) < (nl : Int) := by omega
      obtain ⟨x, hx⟩ : ∃ x, Ls[k]? = some x := ⟨_, List.getElem?_eq_getElem (by rw [← HNL.out]; exact hkn)⟩
      have hxb := HLS.out x (List.mem_of_getElem? hx)
      obtain ⟨gs, hgs1, hgs2⟩ := HSV.out k _ (w64s_at hx)
      have szw := KW.out.size
      have sz4 := HK.out.size
      subst hgs1
      have cx := HK.out.cell2 (p := ⟨gs, k, none⟩) (fun e => by have := World.block_lt_of_cell? w ⟨gs, k, none⟩ hgs2; simp only at this e; omega) (KW.out.cell2 id hgs2)
      have i2 : ¬ (x : Int) < 1 := by omega
      have i3 : ¬ (500 : Int) < (x : Int) := by omega
      have HXX := Lib.hid (show Ls.take (k + 1) = Ls.take k ++ [x] from by rw [List.take_add_one, hx]; rfl)
      have hIl := Hit.out.blk.lt
      have hvI : ∀ b ∈ blkOf (.slice A2 k c2), I < b ∧ b < wr.heap.size := fun b hb => ⟨by have := Hf.out b hb; omega, Ho.out.lt b hb⟩
      have HVI := Lib.hid hvI
      have HKO := Lib.hid (fun (w5 w6 : World) (k5 : Mild wr w5) (t2 : Kept (fun b => b = I ∨ b = wr.heap.size) w5 w6) => show Own w6 1 43 (.slice A2 k c2) k vals ∧ Kept (fun b => b = I) w3 w6 from by
        refine ⟨(Ho.out.kept k5 (fun _ _ => id)).kept t2 (fun b hb h => ?_), Kept.then (HK.out.trans (k5.mono (fun _ _ => False.elim))) t2 (fun b hb h => ?_)⟩
        · have := HVI.out b hb
          rcases h with h | h <;> omega
        · rcases h with h | h
          · exact h
          · omega)
      obtain ⟨l, hll⟩ : ∃ l, l = T.drop (Ls.take k).sum := ⟨_, rfl⟩
      rw [← hll] at Hit
      have HLL := Lib.hid hll
      clear hx hgs2 hvI hll
      go_wp2_with (first
        | (at_make; refine wpList_make_blk rfl (.tmp 39) (.tmp 39) 43 rfl 23 iU (.int .u32 0) 1 undU32r zz1 zz2 zz3 .i64 .i64 _ _ x rfl rfl rfl rfl (by rw [zz4]; omega) (by unfold maxLen; omega) ?_; intro w5 hbk hk5 hsz; rw [made_u32s] at hbk; have NM := Lib.hid (nextMany_any I I p wr.heap.size x x ps (List.replicate x 0) 23 w5 cs l (Hit.out.kept hk5 (fun _ _ => id) id) (W4.out.kept hk5 (fun _ _ => id)) (Nat.le_refl _) (by omega) (by omega) hbk (by simp) (Nat.le_refl _) (by omega)); have K5 := Lib.hid hk5; clear hbk hk5)
        | (go_at_call 99; (with_reducible refine NM.out.mono ?_); rintro ed w6 ⟨kk, hk6, rfl, t1, t2, cs6, t3⟩; have T1 := Lib.hid t1; have T2 := Lib.hid t2; have T3 := Lib.hid t3; have HK6 := Lib.hid hk6; have hkx : kk ≤ x := (by omega); have s6 := fun (W : World) => run_slice_to (P := Tryz.prog) W undU32r szU32r (some ⟨wr.heap.size, 0, none⟩) x x kk .i64 (kk : Int) rfl hkx; have O6 := Lib.hid (HKO.out w5 w6 K5.out T2.out).1; have KK6 := Lib.hid (HKO.out w5 w6 K5.out T2.out).2; clear t1 t2 t3 hk6)
        | (at_builtin; refine append_own_kept (S := fun b => b = I) w3 rfl _ _ 41 41 rfl 43 iS (.slice none 0 0) 1 24 undU32ss undU32ss ys1 ys2 ys3 ys4 rfl (by decide) _ k vals rfl (O6.out.alloc _) (KK6.out.alloc _) Hf.out (some ⟨_, 0, none⟩) 1 1 [.slice (some ⟨wr.heap.size, 0, none⟩) kk x] rfl rfl (by simp) (fun ad had => by cases had; exact cell_one_new _ _ _) (by simp [Value.oneCell']) (by unfold maxLen; omega) (by omega) ?_; intro v7 w7 o7 k7 l7 f7 n7)
        | fail)
      obtain ⟨p1, p2⟩ := take_min HK6.out
      have hKall : Kept (fun b => b = I ∨ b ∈ blkOf (.slice A2 k c2) ∨ wr.heap.size ≤ b) wr w7 := by
        refine ((K5.out.mono (fun _ _ => False.elim)).trans (T2.out.mono (fun b _ h => ?_))).trans ((Kept.alloc (Kept.refl _ _) _).trans (l7.mono (fun b _ h => .inr (.inl h))))
        rcases h with h | h
        · exact .inl h
        · exact .inr (.inr (by omega))
      have hz5 := K5.out.size
      have hz6 := T2.out.size
      have hz7 := l7.size
      simp only [World.size_alloc] at hz7
      have hB7 := HBf.out.step (v' := v7) hKall (fun b h => h) (fun b hb => by
        rcases n7 b hb with h | h
        · exact .inl h
        · simp only [World.size_alloc] at h; exact .inr (by omega))
      have hP : l.take kk = (T.drop (Ls.take k).sum).take x := by rw [p1, HLL.out]
      have hPl : ((T.drop (Ls.take k).sum).take x).length = kk := by
        rw [← hP, List.length_take]
        have := HK6.out
        omega
      have hB8 := hB7.add (g := wr.heap.size) (c := x) (P := (T.drop (Ls.take k).sum).take x) (by omega) (by omega) (fun hb => by
        rcases n7 _ hb with h | h
        · have := HVI.out _ h; omega
        · simp only [World.size_alloc] at h; omega) (fun i y hy => by
        have h6 : w6.cell? ⟨wr.heap.size, i, none⟩ = some (.int .u32 (y : Int)) := (T1.out.cell i).trans (u32s_at (sp_at (by rw [hP]; exact hy)))
        exact l7.cell2 (show ¬ wr.heap.size ∈ blkOf (.slice A2 k c2) from fun h => by have := HVI.out _ h; omega) ((Kept.alloc (Kept.refl (fun _ => False) w6) _).cell2 id h6))
      rw [hPl, ← pcs_concat, ← HXX.out] at hB8
      have it7 : MIt w7 I I p ps cs6 (T.drop (Ls.take (k + 1)).sum) := by
        have h8 := (T3.out.kept (S := fun _ => False) ((Kept.refl _ _).alloc _) (fun _ _ => id) id).kept l7 (fun b hb h => by have := HVI.out _ h; omega) (fun h => by have := HVI.out _ h; omega)
        rw [p2, HLL.out, List.drop_drop] at h8
        rw [HXX.out, List.sum_append, List.sum_singleton]
        exact h8
      go_roundw
      case rel => exact ⟨k + 1, _, cs6, by go_num, by omega, Lib.hid o7, Lib.hid hB8, Lib.hid it7, Lib.hid k7, Lib.hid f7⟩
      case measure => simp only [intOf]; omega
    · obtain rfl : k = nl := by omega
      have e : Ls.take k = Ls := by rw [HNL.out, List.take_length]
      have HE := Lib.hid e
      clear e
      go_wp2
      go_ret
      refine ⟨_, vals, I, rfl, by rw [← HNL.out]; exact Ho.out, by rw [← HE.out]; exact HBf.out, Kept.then KW.out HK.out (fun b hb h => by omega)⟩
end Go.Proofs
