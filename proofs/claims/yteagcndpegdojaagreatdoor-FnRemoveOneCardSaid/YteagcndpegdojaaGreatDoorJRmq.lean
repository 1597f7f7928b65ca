/-
  Plain laws: one number is taken out of a set's parts: from a part that stays, or with the part.
  Plain laws: an entry is taken out of a row by a copy of what lies behind it.
  A set in memory loses a container: its parts.
  roaringArray.resize, removeAtIndex: a container leaves a set's array.
-/
import Derived.Test.YteagcndpegdojaaGreatDoorJAo
import Derived.Test.YteagcndpegdojaaGreatDoorJKo
import Derived.Test.YteagcndpegdojaaGreatDoorKIns
import Derived.Test.YteagcndpegdojaaGreatDoorJHeap
import Derived.Test.YteagcndpegdojaaGreatDoorJSi
namespace Go.Roar
open Go.RowKit Go.Proofs
/-- A part that other parts' keys do not have. -/
theorem part_only {ps : List (Nat × List Nat)} {i j : Nat} {p q : Nat × List Nat} (h : OKP ps) (hi : ps[i]? = some p) (hj : ps[j]? = some q) (hk : p.1 = q.1) : i = j := by
  have hs := h.keys
  have h1 : (ps.map (·.1))[i]? = some p.1 := by rw [List.getElem?_map, hi]; rfl
  have h2 : (ps.map (·.1))[j]? = some q.1 := by rw [List.getElem?_map, hj]; rfl
  rcases Nat.lt_trichotomy i j with h3 | h3 | h3
  · have := rising_lt hs _ _ _ _ h3 h1 h2; omega
  · exact h3
  · have := rising_lt hs _ _ _ _ h3 h2 h1; omega
/-- A number is taken out of the part at place i, which keeps others. -/
theorem part_cut {ps : List (Nat × List Nat)} {i k y : Nat} {l : List Nat} (h : OKP ps) (hi : ps[i]? = some (k, l)) (hy : y < 65536) (hne : wo l y ≠ []) :
    OKP (ps.set i (k, wo l y)) ∧ ∀ x, x ∈ allN (ps.set i (k, wo l y)) ↔ x ∈ allN ps ∧ x ≠ k * 65536 + y := by
  obtain ⟨hil, hie⟩ := List.getElem?_eq_some_iff.1 hi
  have hp := h.2 (k, l) (List.mem_of_getElem? hi)
  have hk : (ps.set i (k, wo l y)).map (·.1) = ps.map (·.1) := by
    rw [List.map_set]
    apply List.ext_getElem?
    intro j
    by_cases hj : j = i
    · subst hj; rw [List.getElem?_set_self (by simpa using hil), List.getElem?_map, hi]; rfl
    · rw [List.getElem?_set_ne (by omega)]
  have ok : OKP (ps.set i (k, wo l y)) := by
    refine ⟨?_, fun p hp' => ?_⟩
    · have : ((ps.set i (k, wo l y)).map (·.1)).Pairwise (· < ·) := by rw [hk]; exact h.keys
      exact List.pairwise_map.1 this
    · rcases List.mem_or_eq_of_mem_set hp' with hp' | rfl
      · exact h.2 p hp'
      · exact ⟨hp.1, wo_rising hp.2.1 y, wo_lt hp.2.2.1 y, hne⟩
  refine ⟨ok, fun x => ?_⟩
  rw [allN_mem (fun p hp => (ok.2 p hp).2.2.1), allN_mem (fun p hp => (h.2 p hp).2.2.1)]
  constructor
  · rintro ⟨p, hp', h1, h2⟩
    obtain ⟨j, hj⟩ := List.getElem?_of_mem hp'
    by_cases hji : j = i
    · subst hji
      rw [List.getElem?_set_self hil] at hj; cases hj
      obtain ⟨h3, h4⟩ := wo_mem.1 h2
      dsimp only at h1 h4
      exact ⟨⟨(k, l), List.mem_of_getElem? hi, h1, h3⟩, by omega⟩
    · rw [List.getElem?_set_ne (by omega)] at hj
      refine ⟨⟨p, List.mem_of_getElem? hj, h1, h2⟩, fun e => hji (part_only h hj hi ?_)⟩
      dsimp only
      omega
  · rintro ⟨⟨p, hp', h1, h2⟩, hne2⟩
    obtain ⟨j, hj⟩ := List.getElem?_of_mem hp'
    by_cases hji : j = i
    · subst hji
      rw [hi] at hj; cases hj
      dsimp only at h1 h2
      exact ⟨(k, wo l y), List.mem_of_getElem? (List.getElem?_set_self hil), h1, wo_mem.2 ⟨h2, by omega⟩⟩
    · exact ⟨p, List.mem_of_getElem? (i := j) (by rw [List.getElem?_set_ne (by omega)]; exact hj), h1, h2⟩
/-- The part at place i had this number alone: it goes. -/
theorem part_del {ps : List (Nat × List Nat)} {i k y : Nat} {l : List Nat} (h : OKP ps) (hi : ps[i]? = some (k, l)) (hy : y < 65536) (he : wo l y = []) :
    OKP (ps.eraseIdx i) ∧ ∀ x, x ∈ allN (ps.eraseIdx i) ↔ x ∈ allN ps ∧ x ≠ k * 65536 + y := by
  obtain ⟨hil, hie⟩ := List.getElem?_eq_some_iff.1 hi
  have hp := h.2 (k, l) (List.mem_of_getElem? hi)
  have ok : OKP (ps.eraseIdx i) := ⟨h.1.sublist (List.eraseIdx_sublist _ _), fun p hp' => h.2 p (List.mem_of_mem_eraseIdx hp')⟩
  have hmem : ∀ p, p ∈ ps.eraseIdx i ↔ ∃ j, j ≠ i ∧ ps[j]? = some p := fun p => by
    rw [List.mem_iff_getElem?]
    constructor
    · rintro ⟨j, hj⟩
      rw [List.getElem?_eraseIdx] at hj
      by_cases hji : j < i
      · rw [if_pos hji] at hj; exact ⟨j, by omega, hj⟩
      · rw [if_neg hji] at hj; exact ⟨j + 1, by omega, hj⟩
    · rintro ⟨j, hji, hj⟩
      rcases Nat.lt_or_ge j i with h3 | h3
      · exact ⟨j, by rw [List.getElem?_eraseIdx, if_pos h3]; exact hj⟩
      · exact ⟨j - 1, by rw [List.getElem?_eraseIdx, if_neg (by omega), show j - 1 + 1 = j by omega]; exact hj⟩
  refine ⟨ok, fun x => ?_⟩
  rw [allN_mem (fun p hp => (ok.2 p hp).2.2.1), allN_mem (fun p hp => (h.2 p hp).2.2.1)]
  constructor
  · rintro ⟨p, hp', h1, h2⟩
    obtain ⟨j, hji, hj⟩ := (hmem p).1 hp'
    refine ⟨⟨p, List.mem_of_getElem? hj, h1, h2⟩, fun e => hji (part_only h hj hi ?_)⟩
    dsimp only
    omega
  · rintro ⟨⟨p, hp', h1, h2⟩, hne2⟩
    obtain ⟨j, hj⟩ := List.getElem?_of_mem hp'
    refine ⟨p, (hmem p).2 ⟨j, fun hji => ?_, hj⟩, h1, h2⟩
    subst hji
    rw [hi] at hj; cases hj
    dsimp only at h1 h2
    have h3 : x % 65536 ∈ wo l y := wo_mem.2 ⟨h2, by omega⟩
    rw [he] at h3
    cases h3
end Go.Roar

namespace Go.Roar
open Go.RowKit Go.Proofs
theorem splice_out {α : Type} (l : List α) (i : Nat) (h : i < l.length) : (splice l i (l.drop (i + 1))).take (l.length - 1) = l.eraseIdx i := by
  have e : l.eraseIdx i = l.take i ++ l.drop (i + 1) := List.eraseIdx_eq_take_drop_succ l i
  rw [e]
  unfold splice
  have h1 : (l.take i ++ l.drop (i + 1)).length = l.length - 1 := by rw [List.length_append, List.length_take, List.length_drop]; omega
  rw [← List.append_assoc] <;> first
    | exact List.take_append_of_le_length (Nat.le_of_eq h1.symm) |>.trans (List.take_of_length_le (Nat.le_of_eq h1))
    | skip
theorem psOf_del (q : List Kon) (i : Nat) : psOf (q.eraseIdx i) = (psOf q).eraseIdx i := by
  unfold psOf
  rw [List.eraseIdx_eq_take_drop_succ, List.eraseIdx_eq_take_drop_succ, List.map_append, List.map_take, List.map_drop]
theorem keys_del (q : List Kon) (i : Nat) : (q.eraseIdx i).map (·.key) = (q.map (·.key)).eraseIdx i := by
  rw [List.eraseIdx_eq_take_drop_succ, List.eraseIdx_eq_take_drop_succ, List.map_append, List.map_take, List.map_drop]
theorem vals_del (q : List Kon) (i : Nat) : (q.eraseIdx i).map (·.v) = (q.map (·.v)).eraseIdx i := by
  rw [List.eraseIdx_eq_take_drop_succ, List.eraseIdx_eq_take_drop_succ, List.map_append, List.map_take, List.map_drop]
theorem KAs_del (q : List Kon) (i : Nat) : KAs (q.eraseIdx i) = KAs (q.take i) ++ KAs (q.drop (i + 1)) := by
  rw [List.eraseIdx_eq_take_drop_succ, KAs_append]
/-- Behind the set with one number less: the keys rise on. -/
theorem del_facts {q : List Kon} {i y : Nat} {x : Kon} (ok : OKP (psOf q)) (hx : q[i]? = some x) (hy : y < 65536) (he : wo x.l y = []) : OKP (psOf (q.eraseIdx i)) ∧ ∀ z, z ∈ allN (psOf (q.eraseIdx i)) ↔ z ∈ allN (psOf q) ∧ z ≠ x.key * 65536 + y := by
  rw [psOf_del]
  exact part_del ok (psOf_at hx) hy he
theorem cut_facts {q : List Kon} {i y : Nat} {x z : Kon} (ok : OKP (psOf q)) (hx : q[i]? = some x) (hy : y < 65536) (hne : wo x.l y ≠ []) (hk : z.key = x.key) (hl : z.l = wo x.l y) : OKP (psOf (q.set i z)) ∧ ∀ u, u ∈ allN (psOf (q.set i z)) ↔ u ∈ allN (psOf q) ∧ u ≠ x.key * 65536 + y := by
  rw [psOf_set, hk, hl]
  exact part_cut ok (psOf_at hx) hy hne
end Go.Roar

namespace Go.Roar
open Go.RowKit Go.Proofs
theorem bmp_del {w0 w1 w2 : World} {F : List Nat} {p : Nat} {t : TypeId} {vk vc vw vk' vc' vw' v1 : Value} {q : List Kon} {i : Nat} {L : List HA}
    (h : SS w0 F w1 (L ++ (RAL p t vk vc vw (q.map (·.key)) ((q.map (·.v)).set i v1) ++ (KAs (q.take i) ++ KAs (q.drop (i + 1))))))
    (h2 : SS w1 (foot (RAL p t vk vc vw (q.map (·.key)) ((q.map (·.v)).set i v1))) w2 (RAL p t vk' vc' vw' ((q.map (·.key)).eraseIdx i) ((q.map (·.v)).eraseIdx i))) :
    SS w0 F w2 (BMP p t vk' vc' vw' (q.eraseIdx i)) := by
  have h3 := h.right.frame h2
  unfold BMP
  rw [KAs_del, keys_del, vals_del]
  exact h3
/-- Values in a row, one of them another: taken out it is the same. -/
theorem set_erase {α : Type} (l : List α) (i : Nat) (v : α) : (l.set i v).eraseIdx i = l.eraseIdx i := by
  rw [List.eraseIdx_eq_take_drop_succ, List.eraseIdx_eq_take_drop_succ, List.take_set_of_le (Nat.le_refl _), List.drop_set_of_lt (Nat.lt_succ_self _)]
end Go.Roar

namespace Go.Roar
open Go.RowKit Go.Proofs
/-- The parts of a roaringArray whose three slices are of one length, their cells told apart. -/
def RZ (p : Nat) (t : TypeId) (gk ck gc cc gw cw n : Nat) (xk xc xw : List Value) : List HA :=
  [B p t [.slice (some ⟨gk, 0, none⟩) n ck, .slice (some ⟨gc, 0, none⟩) n cc, .slice (some ⟨gw, 0, none⟩) n cw, .bool false], O 1 39 (.slice (some ⟨gk, 0, none⟩) n ck) n xk, O 1 74 (.slice (some ⟨gc, 0, none⟩) n cc) n xc, O 1 4 (.slice (some ⟨gw, 0, none⟩) n cw) n xw]
end Go.Roar
namespace Go.Proofs
open Go.RowKit Go.Roar

set_option maxRecDepth 100000 in
set_option maxHeartbeats 2000000 in
theorem resize_any (p : Nat) (t : TypeId) (gk ck gc cc gw cw n : Nat) (xk xc xw : List Value) (w : World) (hlen : n < 65536) (h : Parts w (RZ p t gk ck gc cc gw cw (n + 1) xk xc xw)) :
    Calls Tryz.prog 41 #[.pointer (some ⟨p, 0, none⟩), .int .i64 (n : Int)] w fun e w' => e = .returned (.tuple #[]) ∧ SS w (foot (RZ p t gk ck gc cc gw cw (n + 1) xk xc xw)) w' (RZ p t gk ck gc cc gw cw n (xk.take n) (xc.take n) (xw.take n)) := by
  have S0 := SS.init h
  generalize foot (RZ p t gk ck gc cc gw cw (n + 1) xk xc xw) = F at *
  clear h
  unfold RZ at S0
  have hck := (Own.caps (S0.get (A := O 1 39 (.slice (some ⟨gk, 0, none⟩) (n + 1) ck) (n + 1) xk) (by simp))).1
  have hcc := (Own.caps (S0.get (A := O 1 74 (.slice (some ⟨gc, 0, none⟩) (n + 1) cc) (n + 1) xc) (by simp))).1
  have hcw := (Own.caps (S0.get (A := O 1 4 (.slice (some ⟨gw, 0, none⟩) (n + 1) cw) (n + 1) xw) (by simp))).1
  have hoc : Own w 1 74 (.slice (some ⟨gc, 0, none⟩) (n + 1) cc) (n + 1) xc := S0.get (A := O 1 74 (.slice (some ⟨gc, 0, none⟩) (n + 1) cc) (n + 1) xc) (by simp)
  have hxc := hoc.len
  rw [Nat.mul_one] at hxc
  have S1 := SS.storeO (L := [B p t [.slice (some ⟨gk, 0, none⟩) (n + 1) ck, .slice (some ⟨gc, 0, none⟩) (n + 1) cc, .slice (some ⟨gw, 0, none⟩) (n + 1) cw, .bool false], O 1 39 (.slice (some ⟨gk, 0, none⟩) (n + 1) ck) (n + 1) xk]) (R := [O 1 4 (.slice (some ⟨gw, 0, none⟩) (n + 1) cw) (n + 1) xw]) S0 n (by omega) .nilIface
  have S2 := SS.store (L := []) S1 0 (.slice (some ⟨gk, 0, none⟩) n ck)
  have S3 := SS.store (L := []) S2 1 (.slice (some ⟨gc, 0, none⟩) n cc)
  have S4 := SS.store (L := []) S3 2 (.slice (some ⟨gw, 0, none⟩) n cw)
  have HS4 := Lib.hid S4
  have HXC := Lib.hid hxc
  obtain ⟨y9, hy9⟩ : ∃ y, xc[n]? = some y := ⟨_, List.getElem?_eq_getElem (by omega)⟩
  have b1 := S0.cell 0 rfl 1 rfl
  have d9 := (Own.cellAt hoc hy9)
  have e0 := S1.cell 0 rfl 0 rfl
  have ef := S1.free 0 rfl 0
  have f1 := S2.cell 0 rfl 1 rfl
  have ff := S2.free 0 rfl 1
  have g2 := S3.cell 0 rfl 2 rfl
  have gf := S3.free 0 rfl 2
  have b1' := S1.cell 0 rfl 1 rfl
  have s1 := fun (W : World) => run_slice_to (P := Tryz.prog) W undU16s szU16 (some ⟨gk, 0, none⟩) (n + 1) ck n .i64 (n : Int) rfl (by omega)
  have s2 := fun (W : World) => run_slice_to (P := Tryz.prog) W undConts szCont (some ⟨gc, 0, none⟩) (n + 1) cc n .i64 (n : Int) rfl (by omega)
  have s3 := fun (W : World) => run_slice_to (P := Tryz.prog) W undBools szBool (some ⟨gw, 0, none⟩) (n + 1) cw n .i64 (n : Int) rfl (by omega)
  clear S1 S2 S3 S4 hxc hoc hy9
  go_enter Tryz.func41, Tryz.ntmps41
  go_wp2
  go_loopw [4] (fun k wr => (k = .int .i64 (n : Int) ∧ wr = w) ∨ (k = .int .i64 ((n + 1 : Nat) : Int) ∧ wr = w.setCell ⟨gc, n, none⟩ .nilIface)) (fun k _ => n + 1 - (intOf k).toNat)
  case atStart => first | exact .inl ⟨rfl, rfl⟩ | simp
  case round =>
    rcases hrel with ⟨rfl, rfl⟩ | ⟨rfl, rfl⟩
    · have i1 : (n : Int) < ((n + 1 : Nat) : Int) := by omega
      go_wp2
      go_roundw
      case rel => exact .inr ⟨by go_num, trivial⟩
      case measure => simp only [intOf]; omega
    · go_wp2
      go_end0
      refine ⟨rfl, ?_⟩
      have hx : (xc.set n .nilIface).take n = xc.take n := List.take_set_of_le (Nat.le_refl n)
      obtain ⟨ya, -, -, ha, Sa⟩ := SS.reslice (L := [B p t [.slice (some ⟨gk, 0, none⟩) n ck, .slice (some ⟨gc, 0, none⟩) n cc, .slice (some ⟨gw, 0, none⟩) n cw, .bool false]]) (R := [O 1 74 (.slice (some ⟨gc, 0, none⟩) (n + 1) cc) (n + 1) (xc.set n .nilIface), O 1 4 (.slice (some ⟨gw, 0, none⟩) (n + 1) cw) (n + 1) xw]) (m := n) HS4.out (by omega)
      obtain ⟨yb, -, -, hb, Sb⟩ := SS.reslice (L := [B p t [.slice (some ⟨gk, 0, none⟩) n ck, .slice (some ⟨gc, 0, none⟩) n cc, .slice (some ⟨gw, 0, none⟩) n cw, .bool false], O 1 39 (.slice (some ⟨gk, 0, none⟩) n ck) n ya]) (R := [O 1 4 (.slice (some ⟨gw, 0, none⟩) (n + 1) cw) (n + 1) xw]) (m := n) Sa (by omega)
      obtain ⟨yc, -, -, hc, Sc⟩ := SS.reslice (L := [B p t [.slice (some ⟨gk, 0, none⟩) n ck, .slice (some ⟨gc, 0, none⟩) n cc, .slice (some ⟨gw, 0, none⟩) n cw, .bool false], O 1 39 (.slice (some ⟨gk, 0, none⟩) n ck) n ya, O 1 74 (.slice (some ⟨gc, 0, none⟩) n cc) n yb]) (R := []) (m := n) Sb (by omega)
      have ea := ha (Nat.le_succ n)
      have eb := hb (Nat.le_succ n)
      have ec := hc (Nat.le_succ n)
      rw [Nat.mul_one] at ea eb ec
      rw [hx] at eb
      subst ea eb ec
      exact Sc
theorem u16s_erase (l : List Nat) (i : Nat) : (u16s l).eraseIdx i = u16s (l.eraseIdx i) := by
  simp [u16s, List.eraseIdx_eq_take_drop_succ, List.map_take, List.map_drop]
theorem rep_erase (n i : Nat) (v : Value) (h : i < n + 1) : (List.replicate (n + 1) v).eraseIdx i = List.replicate n v := by
  rw [List.eraseIdx_eq_take_drop_succ, List.take_replicate, List.drop_replicate, List.replicate_append_replicate]
  congr 1; omega

set_option maxRecDepth 100000 in
set_option maxHeartbeats 4000000 in
theorem removeAt_any (p : Nat) (t : TypeId) (vk vc vw : Value) (ks : List Nat) (cs : List Value) (i : Nat) (w : World) (hi : i < ks.length) (hlen : ks.length ≤ 65536) (hone : ∀ v ∈ cs, v.oneCell' = true)
    (h : Parts w (RAL p t vk vc vw ks cs)) :
    Calls Tryz.prog 33 #[.pointer (some ⟨p, 0, none⟩), .int .i64 (i : Int)] w fun e w' => e = .returned (.tuple #[]) ∧
      ∃ vk' vc' vw', SS w (foot (RAL p t vk vc vw ks cs)) w' (RAL p t vk' vc' vw' (ks.eraseIdx i) (cs.eraseIdx i)) := by
  have hRA := RA.of h
  have hcl : cs.length = ks.length := by simpa using hRA.conts.len
  obtain ⟨gk, ck, rfl, hk1, hk2⟩ := Own.shape hRA.keys (by omega)
  obtain ⟨gc, cc, rfl, hc1, hc2⟩ := Own.shape hRA.conts (by omega)
  obtain ⟨gw, cw, rfl, hw1, hw2⟩ := Own.shape hRA.cows (by omega)
  have S0 := SS.init h
  generalize hF : foot (RAL p t (.slice (some ⟨gk, 0, none⟩) ks.length ck) (.slice (some ⟨gc, 0, none⟩) ks.length cc) (.slice (some ⟨gw, 0, none⟩) ks.length cw) ks cs) = F at *
  clear hF h hRA
  unfold RAL at S0
  obtain ⟨n, hn⟩ : ∃ n, ks.length = n + 1 := ⟨ks.length - 1, by omega⟩
  rw [hn] at S0 hcl hi hlen hk1 hc1 hw1
  have Hn := Lib.hid hn
  have Hcl := Lib.hid hcl
  have Hone := Lib.hid hone
  clear hn hcl hone
  have f00 := S0.cell 0 rfl 0 rfl
  have HS0 := Lib.hid S0
  have q1 : IntKind.i64.wrap ((i : Int) + 1) = (i : Int) + 1 := IntWalk.i64_in _ (by omega)
  have q2 : (0 : Int) ≤ (i : Int) + 1 := by omega
  have s1 := fun (W : World) => run_slice_from (P := Tryz.prog) W undU16s szU16 gk 0 (n + 1) ck i .i64 (i : Int) rfl (by omega)
  have s2 := fun (W : World) => run_slice_from (P := Tryz.prog) W undU16s szU16 gk 0 (n + 1) ck (i + 1) .i64 ((i : Int) + 1) (by omega) (by omega)
  have s3 := fun (W : World) => run_slice_from (P := Tryz.prog) W undConts szCont gc 0 (n + 1) cc i .i64 (i : Int) rfl (by omega)
  have s4 := fun (W : World) => run_slice_from (P := Tryz.prog) W undConts szCont gc 0 (n + 1) cc (i + 1) .i64 ((i : Int) + 1) (by omega) (by omega)
  have s5 := fun (W : World) => run_slice_from (P := Tryz.prog) W undBools szBool gw 0 (n + 1) cw i .i64 (i : Int) rfl (by omega)
  have s6 := fun (W : World) => run_slice_from (P := Tryz.prog) W undBools szBool gw 0 (n + 1) cw (i + 1) .i64 ((i : Int) + 1) (by omega) (by omega)
  have e9 : ((n + 1 : Nat) : Int) - 1 = (n : Int) := by omega
  have RZ9 := Lib.hid (fun (xk xc xw : List Value) (W : World) (hP : Parts W (RZ p t gk ck gc cc gw cw (n + 1) xk xc xw)) => resize_any p t gk ck gc cc gw cw n xk xc xw W (by omega) hP)
  clear S0
  go_enter Tryz.func33, Tryz.ntmps33
  go_wp2_with (first
    | (refine wpList_copy_ss rfl (.tmp 9) (.tmp 16) 37 37 rfl 39 1 undU16s szU16 w F [B p t [.slice (some ⟨gk, 0, none⟩) (n + 1) ck, .slice (some ⟨gc, 0, none⟩) (n + 1) cc, .slice (some ⟨gw, 0, none⟩) (n + 1) cw, .bool false]] [O 1 74 (.slice (some ⟨gc, 0, none⟩) (n + 1) cc) (n + 1) cs, O 1 4 (.slice (some ⟨gw, 0, none⟩) (n + 1) cw) (n + 1) (List.replicate (n + 1) (.bool false))] gk (n + 1) ck (u16s ks) HS0.out.drew (some (tlA gk 0 i ck 1)) (some (tlA gk 0 (i + 1) ck 1)) (n + 1 - i) (ck - i) (n - i) (ck - (i + 1)) ?_ ?_ i (n - i) ((u16s ks).drop (i + 1)) ?_ ?_ ?_ ?_ ?_ ?_; rfl; rfl; exact (Nat.min_eq_left (by omega)).symm; (simp [u16s, Hn.out]); exact (fun h0 => ⟨tl_some1 (by omega), _, rfl, Own.src (HS0.out.drew.get (A := O 1 39 (.slice (some ⟨gk, 0, none⟩) (n + 1) ck) (n + 1) (u16s ks)) (by simp)) (i + 1) 1 (by omega) _ drop_src0⟩); (simp [u16s, Hn.out]; omega); exact (fun v hv => u16s_one ks v (List.mem_of_mem_drop hv)); intro w2 S2; have f21 := S2.cell 0 rfl 1 rfl; have HS2 := Lib.hid S2; clear S2)
    | (refine wpList_copy_ss rfl (.tmp 23) (.tmp 30) 66 66 rfl 74 1 undConts szCont w F [B p t [.slice (some ⟨gk, 0, none⟩) (n + 1) ck, .slice (some ⟨gc, 0, none⟩) (n + 1) cc, .slice (some ⟨gw, 0, none⟩) (n + 1) cw, .bool false], O 1 39 (.slice (some ⟨gk, 0, none⟩) (n + 1) ck) (n + 1) (splice (u16s ks) i ((u16s ks).drop (i + 1)))] [O 1 4 (.slice (some ⟨gw, 0, none⟩) (n + 1) cw) (n + 1) (List.replicate (n + 1) (.bool false))] gc (n + 1) cc cs HS2.out.drew (some (tlA gc 0 i cc 1)) (some (tlA gc 0 (i + 1) cc 1)) (n + 1 - i) (cc - i) (n - i) (cc - (i + 1)) ?_ ?_ i (n - i) (cs.drop (i + 1)) ?_ ?_ ?_ ?_ ?_ ?_; rfl; rfl; exact (Nat.min_eq_left (by omega)).symm; (simp [Hcl.out]); exact (fun h0 => ⟨tl_some1 (by omega), _, rfl, Own.src (HS2.out.drew.get (A := O 1 74 (.slice (some ⟨gc, 0, none⟩) (n + 1) cc) (n + 1) cs) (by simp)) (i + 1) 1 (by omega) _ drop_src0⟩); (simp [Hcl.out]; omega); exact (fun v hv => Hone.out v (List.mem_of_mem_drop hv)); intro w3 S3; have f32 := S3.cell 0 rfl 2 rfl; have HS3 := Lib.hid S3; clear S3)
    | (refine wpList_copy_ss rfl (.tmp 37) (.tmp 44) 67 67 rfl 4 1 undBools szBool w F [B p t [.slice (some ⟨gk, 0, none⟩) (n + 1) ck, .slice (some ⟨gc, 0, none⟩) (n + 1) cc, .slice (some ⟨gw, 0, none⟩) (n + 1) cw, .bool false], O 1 39 (.slice (some ⟨gk, 0, none⟩) (n + 1) ck) (n + 1) (splice (u16s ks) i ((u16s ks).drop (i + 1))), O 1 74 (.slice (some ⟨gc, 0, none⟩) (n + 1) cc) (n + 1) (splice cs i (cs.drop (i + 1)))] [] gw (n + 1) cw (List.replicate (n + 1) (.bool false)) HS3.out.drew (some (tlA gw 0 i cw 1)) (some (tlA gw 0 (i + 1) cw 1)) (n + 1 - i) (cw - i) (n - i) (cw - (i + 1)) ?_ ?_ i (n - i) ((List.replicate (n + 1) (Value.bool false)).drop (i + 1)) ?_ ?_ ?_ ?_ ?_ ?_; rfl; rfl; exact (Nat.min_eq_left (by omega)).symm; (simp); exact (fun h0 => ⟨tl_some1 (by omega), _, rfl, Own.src (HS3.out.drew.get (A := O 1 4 (.slice (some ⟨gw, 0, none⟩) (n + 1) cw) (n + 1) (List.replicate (n + 1) (.bool false))) (by simp)) (i + 1) 1 (by omega) _ drop_src0⟩); (simp; omega); exact (fun v hv => by have := List.mem_of_mem_drop hv; simp only [List.mem_replicate] at this; rw [this.2]; rfl); intro w4 S4; have f40 := S4.cell 0 rfl 0 rfl; have HS4 := Lib.hid S4; clear S4)
    | (go_at_call 41; (with_reducible refine (RZ9.out _ _ _ _ HS4.out.sep).mono ?_); rintro ed w5 ⟨rfl, hS5⟩; have HS5 := Lib.hid hS5; clear hS5)
    | (refine wp_region_tail 13 (by kernel_rfl) (by decide +kernel) ?_; simp only [List.take_succ_cons, List.take_zero, List.drop_succ_cons, List.drop_zero]; repeat still_step; try (refine wpStill_nil ?_; show wpList _ _ _ _ _ _))
    | fail)
  go_end0
  have h5 := SS.step (R := []) HS4.out (by rw [List.append_nil]; exact List.Perm.refl _) HS5.out
  rw [List.append_nil] at h5
  have hn := Hn.out
  have hc := Hcl.out
  have e1 : (splice (u16s ks) i ((u16s ks).drop (i + 1))).take n = u16s (ks.eraseIdx i) := by
    rw [← u16s_erase]
    have := splice_out (u16s ks) i (by simp [u16s]; omega)
    rwa [show (u16s ks).length - 1 = n by simp [u16s, hn]] at this
  have e2 : (splice cs i (cs.drop (i + 1))).take n = cs.eraseIdx i := by
    have := splice_out cs i (by omega)
    rwa [show cs.length - 1 = n by omega] at this
  have e3 : (splice (List.replicate (n + 1) (Value.bool false)) i ((List.replicate (n + 1) (Value.bool false)).drop (i + 1))).take n = List.replicate n (.bool false) := by
    have := splice_out (List.replicate (n + 1) (Value.bool false)) i (by simp; omega)
    rw [rep_erase _ _ _ (by omega)] at this
    rwa [show (List.replicate (n + 1) (Value.bool false)).length - 1 = n by simp] at this
  have e4 : (ks.eraseIdx i).length = n := by rw [List.length_eraseIdx_of_lt (by omega), hn]; rfl
  refine ⟨rfl, .slice (some ⟨gk, 0, none⟩) n ck, .slice (some ⟨gc, 0, none⟩) n cc, .slice (some ⟨gw, 0, none⟩) n cw, ?_⟩
  rw [e1, e2, e3] at h5
  unfold RAL
  rw [e4]
  exact h5
end Go.Proofs
namespace Go.Proofs
open Go.RowKit Go.Roar
theorem contAt_any (p : Nat) (t : TypeId) (vk vc vw : Value) (ks : List Nat) (cs : List Value) (i : Nat) (c : Value) (w : World) (hi : i < ks.length) (hc : cs[i]? = some c) (h : Parts w (RAL p t vk vc vw ks cs)) :
    Calls Tryz.prog 32 #[.pointer (some ⟨p, 0, none⟩), .int .i64 (i : Int)] w fun e w' => e = .returned c ∧ w = w' := by
  have hRA := RA.of h
  obtain ⟨g, cc, hv, _, _⟩ := Own.shape hRA.conts (by omega)
  subst hv
  exact raCont_any p g ks.length cc i c w hRA.c hi (Own.cellAt hRA.conts hc).1
end Go.Proofs
