/-
  runIterator16.nextMany: numbers of runs go to a buffer.
-/
import Derived.Test.YteagcndpegdojaaGreatDoorJMnq
import Derived.Test.YteagcndpegdojaaGreatDoorJSr
import Derived.Test.YteagcndpegdojaaGreatDoorJSi
namespace Go.Roar
open Go.RowKit Go.Proofs
theorem buf_put {w : World} {gb off q i v B : Nat} {t : TypeId} {X P : List Nat} (h : Blk w gb t (u32s (sp X off (P ++ List.range' B i)))) (hP : P.length = q) (hlt : off + (q + i) < X.length) (hv : v = B + i) :
    Blk (w.setCell ⟨gb, off + q + i, none⟩ (.int .u32 (v : Int))) gb t (u32s (sp X off (P ++ List.range' B (i + 1)))) := by
  have h1 := h.set (off + (q + i)) (.int .u32 (v : Int))
  rw [u32s_set, sp_set (by rw [List.length_append, List.length_range', hP]) hlt, List.append_assoc, hv] at h1
  rw [List.range'_1_concat, hv, Nat.add_assoc off q i]
  exact h1
theorem buf_spot {w : World} {gb off q i B : Nat} {t : TypeId} {X P : List Nat} (h : Blk w gb t (u32s (sp X off (P ++ List.range' B i)))) (hP : P.length = q) (hlt : off + (q + i) < X.length) : (∃ v, w.cell? ⟨gb, off + q + i, none⟩ = some v) ∧ w.frozen? ⟨gb, off + q + i, none⟩ = false := by
  refine ⟨?_, h.free _⟩
  have hl : (u32s (sp X off (P ++ List.range' B i))).length = X.length := by
    rw [u32s_length, sp_length (by rw [List.length_append, List.length_range', hP]; omega)]
  exact ⟨_, (h.cell _).trans (List.getElem?_eq_getElem (by rw [hl]; omega))⟩
/-- What is left of runs (start, how many behind it) from number k of run j on. -/
def riL (rs : List (Nat × Nat)) (j k : Nat) (l : List Nat) : Prop := (j = rs.length ∧ l = []) ∨ ∃ r : Nat × Nat, rs[j]? = some r ∧ k ≤ r.2 ∧ l = List.range' (r.1 + k) (r.2 - k + 1) ++ ivNums (rs.drop (j + 1))
theorem riL_next {rs : List (Nat × Nat)} {j : Nat} {l : List Nat} (hj : j ≤ rs.length) (h : l = ivNums (rs.drop j)) : riL rs j 0 l := by
  rcases Nat.lt_or_ge j rs.length with hlt | hge
  · refine .inr ⟨rs[j], List.getElem?_eq_getElem hlt, Nat.zero_le _, ?_⟩
    rw [h, List.drop_eq_getElem_cons hlt, ivNums_cons]
    simp
  · refine .inl ⟨by omega, ?_⟩
    rw [h, List.drop_eq_nil_of_le hge]
    rfl
theorem ri_take {L R : List Nat} {q Q st k ln : Nat} (h : L.drop q = List.range' (st + k) (ln - k + 1) ++ R) (hQ : Q ≤ ln - k + 1) (hq : q ≤ L.length) :
    L.take (q + Q) = L.take q ++ List.range' (st + k) Q ∧ L.drop (q + Q) = List.range' (st + k + Q) (ln - k + 1 - Q) ++ R ∧ q + Q ≤ L.length := by
  have e : List.range' (st + k) (ln - k + 1) = List.range' (st + k) Q ++ List.range' (st + k + Q) (ln - k + 1 - Q) := by
    rw [List.range'_append_1]
    congr 1; omega
  have hl := congrArg List.length h
  rw [List.length_drop, List.length_append, List.length_range'] at hl
  refine ⟨?_, ?_, by omega⟩
  · have e2 : (List.range' (st + k) Q).take Q = List.range' (st + k) Q := List.take_of_length_le (by rw [List.length_range']; exact Nat.le_refl _)
    rw [List.take_add, h, e, List.append_assoc, List.take_append_of_le_length (by rw [List.length_range']; exact Nat.le_refl _), e2]
  · rw [← List.drop_drop, h, e, List.append_assoc, List.drop_append, List.drop_of_length_le (by rw [List.length_range']; exact Nat.le_refl _), List.length_range', Nat.sub_self, List.nil_append, List.drop_zero]
theorem set_two (cs : List Value) (o : Nat) (a b a' b' : Value) : (((cs.set (o + 1) a).set (o + 2) b).set (o + 2) b').set (o + 1) a' = (cs.set (o + 1) a').set (o + 2) b' := by
  rw [List.set_set, List.set_comm _ _ (show o + 2 ≠ o + 1 by omega), List.set_set]
/-- What nextMany of runs leads to. -/
def RiP (I o gb off m hs : Nat) (rs : List (Nat × Nat)) (L X : List Nat) (T t : TypeId) (cs : List Value) (w : World) (e : Ending) (w' : World) : Prop :=
  ∃ n j k : Nat, n = min m L.length ∧ e = .returned (.int .i64 (n : Int)) ∧ Blk w' gb t (u32s (sp X off ((L.take n).map (hs + ·)))) ∧ Blk w' I T ((cs.set (o + 1) (.int .i64 (j : Int))).set (o + 2) (.int .u16 (k : Int))) ∧ Kept (fun b => b = I ∨ b = gb) w w' ∧ riL rs j k (L.drop n)
end Go.Roar
namespace Go.Proofs
open Go.RowKit Go.Roar
theorem undU32r : Tryz.prog.underlying 43 = some (.slice 23) := by kernel_rfl
theorem szU32r : (Tryz.prog.info? 23).map (·.size) = some 1 := by kernel_rfl

set_option maxRecDepth 100000 in
set_option maxHeartbeats 16000000 in
theorem riMany_any (I o gb off m cap hs p g c M j0 k0 : Nat) (rs : List (Nat × Nat)) (L X : List Nat) (T t : TypeId) (cs : List Value) (w : World) (hI : Blk w I T cs) (h0 : cs[o]? = some (.pointer (some ⟨p, 0, none⟩))) (h1 : cs[o + 1]? = some (.int .i64 (j0 : Int))) (h2 : cs[o + 2]? = some (.int .u16 (k0 : Int)))
    (hp : w.cell? ⟨p, 0, none⟩ = some (.slice (some ⟨g, 0, none⟩) M c)) (hl : rs.length = M) (hM : M ≤ 65536) (hrb : ∀ r ∈ rs, r.1 + r.2 < 65536) (hx : ∀ (i : Nat) (r : Nat × Nat), rs[i]? = some r → w.cell? ⟨g, i * 2, none⟩ = some (.int .u16 (r.1 : Int)) ∧ w.cell? ⟨g, i * 2 + 1, none⟩ = some (.int .u16 (r.2 : Int)))
    (hL : riL rs j0 k0 L) (hne : L ≠ []) (hb : Blk w gb t (u32s X)) (hoff : off + m ≤ X.length) (hmc : m ≤ cap) (hm : m ≤ 100000) (hm0 : 0 < m) (h8 : hs % 65536 = 0) (h9 : hs < 4294967296) (d1 : gb ≠ I) (d2 : g ≠ I) (d3 : g ≠ gb) (d4 : p ≠ I) (d5 : p ≠ gb) :
    Calls Tryz.prog 307 #[.pointer (some ⟨I, o, none⟩), .int .u32 (hs : Int), .slice (some ⟨gb, off, none⟩) m cap] w (RiP I o gb off m hs rs L X T t cs w) := by
  have c0 := (hI.cell o).trans h0
  have c1 := (hI.cell (o + 1)).trans h1
  have c2 := (hI.cell (o + 2)).trans h2
  have HN := Lib.hid (show Calls Tryz.prog 305 #[.pointer (some ⟨I, o, none⟩)] w fun e w' => e = .returned (.bool true) ∧ Mild w w' from by
    rcases hL with ⟨_, h⟩ | ⟨r, hr, hk, _⟩
    · exact absurd h hne
    · have hj : j0 < rs.length := (List.getElem?_eq_some_iff.1 hr).1
      rcases Nat.lt_or_ge (j0 + 1) M with h | h
      · exact riHas_far I o p j0 _ M c w c0 c1 hp h (by omega)
      · obtain rfl : M = j0 + 1 := by omega
        exact riHas_last I o p g j0 k0 r.2 c w c0 c1 c2 hp (by omega) (hx _ _ hr).2 hk)
  have hcl : cs.length > o + 2 := (List.getElem?_eq_some_iff.1 h2).1
  have HB := Lib.hid (fun (W : World) (kk : Mild w W) => show Blk W gb t (u32s (sp X off ((L.take 0).map (hs + ·)))) from by rw [List.take_zero]; simp only [List.map_nil]; rw [sp_nil]; exact hb.kept kk id)
  have HI := Lib.hid (fun (W : World) (kk : Mild w W) => show Blk W I T ((cs.set (o + 1) (.int .i64 (j0 : Int))).set (o + 2) (.int .u16 (k0 : Int))) from by
    have e1 : cs.set (o + 1) (.int .i64 (j0 : Int)) = cs := by
      obtain ⟨q1, q2⟩ := List.getElem?_eq_some_iff.1 h1
      rw [← q2, List.set_getElem_self]
    rw [e1]
    have e2 : cs.set (o + 2) (.int .u16 (k0 : Int)) = cs := by
      obtain ⟨q1, q2⟩ := List.getElem?_eq_some_iff.1 h2
      rw [← q2, List.set_getElem_self]
    rw [e2]
    exact hI.kept kk id)
  have HX := Lib.hid hx
  have HRB := Lib.hid hrb
  have HLW := Lib.hid hl
  have HL := Lib.hid hL
  have HNE := Lib.hid hne
  have HCL := Lib.hid hcl
  have H0 := Lib.hid h0
  have HP := Lib.hid hp
  clear hb hx hrb hl hI h0 h1 h2 hL hne hcl hp
  go_enter Tryz.func307, Tryz.ntmps307
  go_wp2_with (first
    | (go_at_call 305; (with_reducible refine HN.out.mono ?_); rintro ed w1 ⟨rfl, k1⟩; have K1 := Lib.hid k1; clear k1)
    | fail)
  go_loopw [7] (fun n wr => ∃ q j k : Nat, n = .int .i64 q ∧ q ≤ m ∧ q ≤ L.length ∧ Hid (∃ r : Nat × Nat, rs[j]? = some r ∧ k ≤ r.2 ∧ L.drop q = List.range' (r.1 + k) (r.2 - k + 1) ++ ivNums (rs.drop (j + 1))) ∧ Hid (Blk wr gb t (u32s (sp X off ((L.take q).map (hs + ·))))) ∧ Hid (Blk wr I T ((cs.set (o + 1) (.int .i64 (j : Int))).set (o + 2) (.int .u16 (k : Int)))) ∧ Hid (Kept (fun b => b = I ∨ b = gb) w wr)) (fun n _ => m - (intOf n).toNat)
  case atStart => exact ⟨0, j0, k0, rfl, Nat.zero_le _, Nat.zero_le _, Lib.hid (by
    rcases HL.out with ⟨_, h⟩ | h
    · exact absurd h HNE.out
    · rw [List.drop_zero]; exact h), Lib.hid (HB.out _ K1.out), Lib.hid (HI.out _ K1.out), Lib.hid (K1.out.mono (fun _ _ => False.elim))⟩
  case round =>
    obtain ⟨q, j, k, rfl, hq1, hq2, Hr, Hb, Hi, Hk⟩ := hrel
    obtain ⟨r, hrj, hkr, hLq⟩ := Hr.out
    by_cases hqm : q < m
    · have hjM : j < M := by have := (List.getElem?_eq_some_iff.1 hrj).1; rw [HLW.out] at this; exact this
      have hrr := HRB.out r (List.mem_of_getElem? hrj)
      obtain ⟨st, ln⟩ := r
      simp only at hrr hkr hLq
      have b0 := (Hi.out.cell o).trans (((List.getElem?_set_ne (by omega)).trans (List.getElem?_set_ne (by omega))).trans H0.out)
      have b1 : wr.cell? ⟨I, o + 1, none⟩ = some (.int .i64 (j : Int)) := (Hi.out.cell (o + 1)).trans ((List.getElem?_set_ne (by omega)).trans (List.getElem?_set_self (by have := HCL.out; omega)))
      have b2 : wr.cell? ⟨I, o + 2, none⟩ = some (.int .u16 (k : Int)) := (Hi.out.cell (o + 2)).trans (List.getElem?_set_self (by rw [List.length_set]; exact HCL.out))
      have b3 := Hk.out.cell2 (p := ⟨p, 0, none⟩) (fun e => Or.elim e d4 d5) HP.out
      have b4 := Hk.out.cell2 (p := ⟨g, j * 2, none⟩) (fun e => Or.elim e d2 d3) (HX.out j _ hrj).1
      have b5 := Hk.out.cell2 (p := ⟨g, j * 2 + 1, none⟩) (fun e => Or.elim e d2 d3) (HX.out j _ hrj).2
      simp only at b4 b5
      obtain ⟨d, hd⟩ : ∃ d, d = ln - k := ⟨_, rfl⟩
      obtain ⟨e9, he9⟩ : ∃ e9, e9 = d + 1 := ⟨_, rfl⟩
      obtain ⟨f9, hf9⟩ : ∃ f9, f9 = m - q := ⟨_, rfl⟩
      obtain ⟨Q, hQ⟩ : ∃ Q, Q = Nat.min e9 f9 := ⟨_, rfl⟩
      obtain ⟨sk, hsk⟩ : ∃ sk, sk = st + k := ⟨_, rfl⟩
      obtain ⟨BB, hBB⟩ : ∃ BB, BB = hs + sk := ⟨_, rfl⟩
      have hQ1 : Q ≤ e9 := by rw [hQ]; exact Nat.min_le_left _ _
      have hQ2 : Q ≤ f9 := by rw [hQ]; exact Nat.min_le_right _ _
      have z1 : IntKind.u16.wrap ((ln : Int) - (k : Int)) = (d : Int) := by rw [IntWalk.u16_in _ (by omega)]; omega
      have z2 : IntKind.i64.wrap (d : Int) = (d : Int) := IntWalk.i64_in _ (by omega)
      have z3 : IntKind.i64.wrap ((d : Int) + 1) = (e9 : Int) := by rw [IntWalk.i64_in _ (by omega)]; omega
      have z4 : IntKind.i64.wrap ((m : Int) - (q : Int)) = (f9 : Int) := by rw [IntWalk.i64_in _ (by omega)]; omega
      have z5 : IntKind.u16.wrap ((st : Int) + (k : Int)) = (sk : Int) := by rw [IntWalk.u16_in _ (by omega)]; omega
      have z6 : IntKind.u32.wrap (sk : Int) = (sk : Int) := IntWalk.u32_in _ (by omega)
      have z7 : bits .or .u32 (sk : Int) (hs : Int) = (BB : Int) := by rw [hBB]; exact or_hs (by omega) h8 h9
      have z8 : decide ((k : Int) ≤ (ln : Int)) = true := by simp; omega
      have MI := fun (W : World) => show Calls Tryz.prog 60 #[.int .i64 (e9 : Int), .int .i64 (f9 : Int)] W fun ed w' => ed = .returned (.int .i64 (Q : Int)) ∧ W = w' from by rw [hQ]; exact minOf_any e9 f9 W
      have i1 : (q : Int) < (m : Int) := by omega
      have i2 : (j : Int) < (M : Int) := by omega
      have hQpos : 0 < Q := by rw [hQ]; exact Nat.lt_min.2 ⟨by omega, by omega⟩
      have hQm : q + Q ≤ m := by omega
      have hQk : k + Q ≤ ln + 1 := by omega
      have HQF := Lib.hid (show Q = ln - k + 1 ∨ (q + Q = m ∧ k + Q ≤ ln) from by
        rcases Nat.lt_or_ge f9 e9 with h | h
        · right
          have : Q = f9 := by rw [hQ]; exact Nat.min_eq_right (by omega)
          omega
        · left
          have : Q = e9 := by rw [hQ]; exact Nat.min_eq_left (by omega)
          omega)
      have hskb : sk + Q ≤ 65536 := by omega
      have HBB := Lib.hid hBB
      have HSK := Lib.hid hsk
      have hBBb : BB + Q ≤ 4294967296 := by omega
      clear hd he9 hf9 hQ hsk hBB hQ1 hQ2
      have FA := Lib.hid (fun (W : World) (kk : Mild wr W) => And.intro (kk.cell2 id b0) (And.intro (kk.cell2 id b1) (And.intro (kk.cell2 id b2) (And.intro (kk.cell2 id b3) (And.intro (kk.cell2 id b4) (kk.cell2 id b5))))))
      have hqc : q < cap := by omega
      have s1 : ∀ W : World, (Instr.slice 43 (.slice (some ⟨gb, off, none⟩) m cap) (some (.int .i64 (q : Int))) (some (.int .i64 ((q : Int) + (Q : Int)))) none).run Tryz.prog W = .ok (.slice (some ⟨gb, off + q, none⟩) Q (cap - q)) W := fun W => by
        have := run_cut_both (P := Tryz.prog) W undU32r szU32r gb off m cap q (q + Q) .i64 .i64 (q : Int) ((q : Int) + (Q : Int)) rfl (by omega) (by omega) (by omega)
        rw [tlA_of hqc, Nat.mul_one, show q + Q - q = Q by omega] at this
        exact this
      go_upto_region 6 with fail
      go_quiet (fail)
      have ka : Mild wr (wr.drewN nq) := (Kept.refl _ _).drewN nq
      generalize wr.drewN nq = wa at *
      clear b0 b1 b2 b3 b4 b5
      obtain ⟨b0, b1, b2, b3, b4, b5⟩ := FA.out _ ka
      go_upto_region 7 with fail
      go_region_held3 (fun w' => w'.cell? ⟨I, o, none⟩ = some (.pointer (some ⟨p, 0, none⟩)) ∧ w'.cell? ⟨I, o + 1, none⟩ = some (.int .i64 (j : Int)) ∧ w'.cell? ⟨I, o + 2, none⟩ = some (.int .u16 (k : Int)) ∧ w'.cell? ⟨p, 0, none⟩ = some (.slice (some ⟨g, 0, none⟩) M c) ∧ w'.cell? ⟨g, j * 2, none⟩ = some (.int .u16 (st : Int)) ∧ w'.cell? ⟨g, j * 2 + 1, none⟩ = some (.int .u16 (ln : Int))) (first | exact FA.out _ ka.drew) (first
        | (go_at_call 60; (with_reducible refine (MI _).mono ?_); rintro ed w2 ⟨rfl, rfl⟩)
        | fail)
      have kb : Mild wr wa.drew := ka.drew
      generalize wa.drew = wb at *
      clear b0 b1 b2 b3 b4 b5
      obtain ⟨b0, b1, b2, b3, b4, b5⟩ := FA.out _ kb
      go_upto_region 8 with fail
      go_quiet (fail)
      have kc : Mild wr (wb.drewN nq) := kb.drewN nq
      generalize wb.drewN nq = wc at *
      clear b0 b1 b2 b3 b4 b5 ka kb z1 z2 z3 z4 z5 z6 z7 z8 MI
      obtain ⟨PP, hPP⟩ : ∃ PP, PP = (L.take q).map (hs + ·) := ⟨_, rfl⟩
      have hPl : PP.length = q := by rw [hPP, List.length_map, List.length_take]; omega
      have HPL := Lib.hid hPl
      have HPP := Lib.hid hPP
      have HB0 := Lib.hid (show Blk wc gb t (u32s (sp X off (PP ++ List.range' BB 0))) from by rw [List.range'_zero, List.append_nil, hPP]; exact Hb.out.kept kc id)
      have FB := Lib.hid (fun (W : World) (kk : Kept (fun b => b = gb) wc W) => show W.cell? ⟨I, o, none⟩ = some (.pointer (some ⟨p, 0, none⟩)) ∧ W.cell? ⟨I, o + 1, none⟩ = some (.int .i64 (j : Int)) ∧ W.cell? ⟨I, o + 2, none⟩ = some (.int .u16 (k : Int)) ∧ W.cell? ⟨p, 0, none⟩ = some (.slice (some ⟨g, 0, none⟩) M c) ∧ W.cell? ⟨g, j * 2, none⟩ = some (.int .u16 (st : Int)) ∧ W.cell? ⟨g, j * 2 + 1, none⟩ = some (.int .u16 (ln : Int)) from by
        obtain ⟨b0, b1, b2, b3, b4, b5⟩ := FA.out _ kc
        exact ⟨kk.cell2 (fun e => d1 e.symm) b0, kk.cell2 (fun e => d1 e.symm) b1, kk.cell2 (fun e => d1 e.symm) b2, kk.cell2 d5 b3, kk.cell2 d3 b4, kk.cell2 d3 b5⟩)
      have HXL := Lib.hid (show off + (q + Q) ≤ X.length by omega)
      have KC := Lib.hid kc
      have HI5 := Lib.hid (fun (W : World) (kk : Kept (fun b => b = gb) wc W) => (Hi.out.kept kc id).kept kk (fun e => d1 e.symm))
      have HLQ := Lib.hid hLq
      have HRJ := Lib.hid hrj
      have hBB9 : BB < 4294967296 := by omega
      clear hPl hPP kc hLq hrj
      go_wp2
      go_loopw [9, 11] (fun b i wx => ∃ y v : Nat, i = .int .i64 y ∧ b = .int .u32 (v : Int) ∧ y ≤ Q ∧ v < 4294967296 ∧ Hid (y < Q → v = BB + y) ∧ Hid (Blk wx gb t (u32s (sp X off (PP ++ List.range' BB y)))) ∧ Hid (Kept (fun b => b = gb) wc wx)) (fun _ i _ => Q - (intOf i).toNat)
      case atStart => exact ⟨0, BB, rfl, rfl, Nat.zero_le _, hBB9, Lib.hid (fun _ => rfl), HB0, Lib.hid (Kept.refl _ _)⟩
      case round =>
        obtain ⟨y, v, rfl, rfl, hy, hv9, Hv, Hw, Hkw⟩ := hrel
        by_cases hy3 : y + 3 < Q
        · have hXL := HXL.out
          have hv := Hv.out (by omega)
          obtain ⟨v1, hv1⟩ : ∃ v1, v1 = v + 1 := ⟨_, rfl⟩
          obtain ⟨v2, hv2⟩ : ∃ v2, v2 = v + 2 := ⟨_, rfl⟩
          obtain ⟨v3, hv3⟩ : ∃ v3, v3 = v + 3 := ⟨_, rfl⟩
          obtain ⟨v4, hv4⟩ : ∃ v4, v4 = (v + 4) % 4294967296 := ⟨_, rfl⟩
          obtain ⟨⟨u0, t0⟩, f0⟩ := buf_spot Hw.out HPL.out (show off + (q + y) < X.length by omega)
          have J1 := buf_put (v := v) Hw.out HPL.out (by omega) hv
          obtain ⟨⟨u1, t1⟩, f1⟩ := buf_spot J1 HPL.out (show off + (q + (y + 1)) < X.length by omega)
          have J2 := buf_put (v := v1) J1 HPL.out (by omega) (by omega)
          obtain ⟨⟨u2, t2⟩, f2⟩ := buf_spot J2 HPL.out (show off + (q + (y + 1 + 1)) < X.length by omega)
          have J3 := buf_put (v := v2) J2 HPL.out (by omega) (by omega)
          obtain ⟨⟨u3, t3⟩, f3⟩ := buf_spot J3 HPL.out (show off + (q + (y + 1 + 1 + 1)) < X.length by omega)
          have J4 := buf_put (v := v3) J3 HPL.out (by omega) (by omega)
          rw [show y + 1 + 1 + 1 + 1 = y + 4 by omega, show y + 1 + 1 + 1 = y + 3 by omega, show y + 1 + 1 = y + 2 by omega] at J4
          have HJ4 := Lib.hid J4
          rw [show y + 1 + 1 = y + 2 by omega] at t2 f2
          rw [show y + 1 + 1 = y + 2 by omega, show y + 2 + 1 = y + 3 by omega] at t3 f3
          have e1 : (v : Int) + 1 = (v1 : Int) := by omega
          have e2 : (v : Int) + 2 = (v2 : Int) := by omega
          have e3 : (v : Int) + 3 = (v3 : Int) := by omega
          have e4 : IntKind.u32.wrap ((v : Int) + 4) = (v4 : Int) := by rw [IntKind.wrap_u32]; omega
          have hvq : v + 3 < 4294967296 := by omega
          have HV := Lib.hid (show (y + 4 < Q → v4 = BB + (y + 4)) ∧ v4 < 4294967296 by omega)
          clear hv hv1 hv2 hv3 hv4 J1 J2 J3 J4 hXL
          go_wp2
          go_roundw
          case rel => exact ⟨y + 4, v4, by go_num, rfl, by omega, HV.out.2, Lib.hid HV.out.1, HJ4, Lib.hid (Kept.setCell (S := fun b => b = gb) (p := ⟨gb, off + q + (y + 3), none⟩) (Kept.setCell (S := fun b => b = gb) (p := ⟨gb, off + q + (y + 2), none⟩) (Kept.setCell (S := fun b => b = gb) (p := ⟨gb, off + q + (y + 1), none⟩) (Kept.setCell (S := fun b => b = gb) (p := ⟨gb, off + q + y, none⟩) Hkw.out (fun _ => rfl) _) (fun _ => rfl) _) (fun _ => rfl) _) (fun _ => rfl) _)⟩
          case measure => simp only [intOf]; omega
        · have HVy := Lib.hid hv9
          have i7 : ¬ ((y : Int) + 3 < (Q : Int)) := by omega
          go_wp2
          go_loopw [9, 11] (fun b i wx => ∃ y v : Nat, i = .int .i64 y ∧ b = .int .u32 (v : Int) ∧ y ≤ Q ∧ v < 4294967296 ∧ Hid (y < Q → v = BB + y) ∧ Hid (Blk wx gb t (u32s (sp X off (PP ++ List.range' BB y)))) ∧ Hid (Kept (fun b => b = gb) wc wx)) (fun _ i _ => Q - (intOf i).toNat)
          case atStart => exact ⟨y, v, rfl, rfl, hy, hv9, Hv, Hw, Hkw⟩
          case round =>
            clear Hv Hw Hkw hy hv9 HVy i7 hy3
            obtain ⟨y, v, rfl, rfl, hy, hv9, Hv, Hw, Hkw⟩ := hrel
            by_cases hyQ : y < Q
            · have hXL := HXL.out
              have hv := Hv.out hyQ
              obtain ⟨v4, hv4⟩ : ∃ v4, v4 = (v + 1) % 4294967296 := ⟨_, rfl⟩
              obtain ⟨⟨u0, t0⟩, f0⟩ := buf_spot Hw.out HPL.out (show off + (q + y) < X.length by omega)
              have J1 := Lib.hid (buf_put (v := v) Hw.out HPL.out (by omega) hv)
              have e4 : IntKind.u32.wrap ((v : Int) + 1) = (v4 : Int) := by rw [IntKind.wrap_u32]; omega
              have HV := Lib.hid (show (y + 1 < Q → v4 = BB + (y + 1)) ∧ v4 < 4294967296 by omega)
              clear hv hv4 hXL
              go_wp2
              go_roundw
              case rel => exact ⟨y + 1, v4, by go_num, rfl, by omega, HV.out.2, Lib.hid HV.out.1, J1, Lib.hid (Kept.setCell (S := fun b => b = gb) (p := ⟨gb, off + q + y, none⟩) Hkw.out (fun _ => rfl) _)⟩
              case measure => simp only [intOf]; omega
            · have hyQ2 : y = Q := by omega
              rw [hyQ2] at Hw
              have i8 : ¬ (y : Int) < (Q : Int) := by omega
              obtain ⟨b0, b1, b2, b3, b4, b5⟩ := FB.out _ Hkw.out
              clear Hv hyQ2 hy
              have hqL := (ri_take HLQ.out (show Q ≤ ln - k + 1 by rcases HQF.out with h | h <;> omega) hq2).2.2
              have HT := Lib.hid (show PP ++ List.range' BB Q = (L.take (q + Q)).map (hs + ·) from by
                rw [(ri_take HLQ.out (show Q ≤ ln - k + 1 by rcases HQF.out with h | h <;> omega) hq2).1, List.map_append, ← HPP.out, ← HSK.out, HBB.out]
                congr 1
                rw [List.map_add_range'])
              have HD := Lib.hid (ri_take HLQ.out (show Q ≤ ln - k + 1 by rcases HQF.out with h | h <;> omega) hq2).2.1
              have x1 : IntKind.i64.wrap (k : Int) = (k : Int) := IntWalk.i64_in _ (by omega)
              have x3 : IntKind.i64.wrap (ln : Int) = (ln : Int) := IntWalk.i64_in _ (by omega)
              obtain ⟨s9, hs9⟩ : ∃ s9, s9 = Q + k := ⟨_, rfl⟩
              have x2 : IntKind.i64.wrap ((Q : Int) + (k : Int)) = (s9 : Int) := by rw [IntWalk.i64_in _ (by omega)]; omega
              by_cases hfin : Q = ln - k + 1
              · have x4 : decide ((ln : Int) < (s9 : Int)) = true := by simp; omega
                have x7 : ln < s9 := by omega
                have HF := Lib.hid hfin
                have HD2 := Lib.hid (show L.drop (q + Q) = ivNums (rs.drop (j + 1)) from by
                  rw [HD.out, show ln - k + 1 - Q = 0 by omega, List.range'_zero, List.nil_append])
                clear hs9 hfin
                go_upto_region 23 with fail
                go_quiet (fail)
                have kd : Kept (fun b => b = gb) wc (wr.drewN nq) := Hkw.out.drewN nq
                have Hwd := Lib.hid (Hw.out.drewN nq)
                generalize wr.drewN nq = wd at *
                clear b0 b1 b2 b3 b4 b5 x1 x2 x3
                obtain ⟨b0, b1, b2, b3, b4, b5⟩ := FB.out _ kd
                have Ji := HI5.out _ kd
                have f2 := Ji.free (o + 2)
                have Ji1 := Ji.set (o + 2) (.int .u16 0)
                have f1 := Ji1.free (o + 1)
                have c5 : (wd.setCell ⟨I, o + 2, none⟩ (.int .u16 0)).cell? ⟨I, o + 1, none⟩ = some (.int .i64 (j : Int)) := (Ji1.cell (o + 1)).trans ((List.getElem?_set_ne (by omega)).trans ((Ji.cell (o + 1)).symm.trans b1))
                have Ji2 := Ji1.set (o + 1) (.int .i64 ((j : Int) + 1))
                rw [set_two] at Ji2
                have HJ2 := Lib.hid Ji2
                have HKD := Lib.hid kd
                obtain ⟨we, hwe⟩ : ∃ we, we = (wd.setCell ⟨I, o + 2, none⟩ (.int .u16 0)).setCell ⟨I, o + 1, none⟩ (.int .i64 ((j : Int) + 1)) := ⟨_, rfl⟩
                have K2 : Kept (fun b => b = I) wd we := by rw [hwe]; exact Kept.setCell (S := fun b => b = I) (p := ⟨I, o + 1, none⟩) (Kept.setCell (S := fun b => b = I) (p := ⟨I, o + 2, none⟩) (Kept.refl _ _) (fun _ => rfl) _) (fun _ => rfl) _
                rw [← hwe] at Ji2
                have y0 := (Ji2.cell o).trans (((List.getElem?_set_ne (by omega)).trans (List.getElem?_set_ne (by omega))).trans H0.out)
                have y1 : we.cell? ⟨I, o + 1, none⟩ = some (.int .i64 ((j : Int) + 1)) := (Ji2.cell (o + 1)).trans ((List.getElem?_set_ne (by omega)).trans (List.getElem?_set_self (by have := HCL.out; omega)))
                have y3 := K2.cell2 (p := ⟨p, 0, none⟩) d4 b3
                rw [hwe] at y0 y1 y3
                clear Ji Ji1 Ji2 kd K2 hwe
                go_upto_region 26 with fail
                have KE := Lib.hid (show Kept (fun b => b = I ∨ b = gb) w ((wd.setCell ⟨I, o + 2, none⟩ (.int .u16 0)).setCell ⟨I, o + 1, none⟩ (.int .i64 ((j : Int) + 1))) from Kept.setCell (S := fun b => b = I ∨ b = gb) (p := ⟨I, o + 1, none⟩) (Kept.setCell (S := fun b => b = I ∨ b = gb) (p := ⟨I, o + 2, none⟩) ((Hk.out.trans (KC.out.mono (fun _ _ => False.elim))).trans (HKD.out.mono (fun _ _ h => .inr h))) (fun _ => .inl rfl) _) (fun _ => .inl rfl) _)
                have HBE := Lib.hid (show Blk ((wd.setCell ⟨I, o + 2, none⟩ (.int .u16 0)).setCell ⟨I, o + 1, none⟩ (.int .i64 ((j : Int) + 1))) gb t (u32s (sp X off ((L.take (q + Q)).map (hs + ·)))) from by rw [← HT.out]; exact (Hwd.out.set_ne d1 _ _).set_ne d1 _ _)
                by_cases hend : j + 1 = M
                · have i9 : ((j : Int) + 1 == (M : Int)) = true := by rw [beq_iff_eq]; omega
                  have HEND := Lib.hid hend
                  have hL0 : L.drop (q + Q) = [] := by
                    rw [HD2.out, List.drop_eq_nil_of_le (by rw [HLW.out]; omega)]
                    rfl
                  have hLl : L.length = q + Q := by
                    have := congrArg List.length hL0
                    rw [List.length_drop, List.length_nil] at this
                    omega
                  have HLL := Lib.hid hLl
                  have HL0 := Lib.hid hL0
                  clear hend hL0 hLl
                  go_quiet (fail)
                  go_wp2
                  go_ret
                  refine ⟨q + Q, j + 1, 0, by rw [HLL.out]; omega, by show Ending.returned (.int .i64 ((q : Int) + (Q : Int))) = _; rw [← Int.natCast_add], HBE.out.drewN _, ?_, KE.out.drewN _, .inl ⟨by rw [HLW.out]; exact HEND.out, HL0.out⟩⟩
                  exact HJ2.out.drewN _
                · have i9 : ((j : Int) + 1 == (M : Int)) = false := by rw [beq_eq_false_iff_ne]; omega
                  have hjM2 : j + 1 < M := by omega
                  clear hend
                  go_quiet (fail)
                  go_wp2
                  go_roundw
                  case rel => exact ⟨q + Q, j + 1, 0, by go_num, hQm, hqL, Lib.hid (by
                    have hlt : j + 1 < rs.length := by rw [HLW.out]; exact hjM2
                    refine ⟨rs[j + 1], List.getElem?_eq_getElem hlt, Nat.zero_le _, ?_⟩
                    rw [HD2.out, List.drop_eq_getElem_cons hlt, ivNums_cons]
                    simp), Lib.hid (HBE.out.drewN _), Lib.hid (HJ2.out.drewN _), Lib.hid (KE.out.drewN _)⟩
                  case measure => simp only [intOf]; omega
              · have hnf : q + Q = m ∧ k + Q ≤ ln := by rcases HQF.out with h | h; · exact absurd h hfin
                                                        · exact h
                have x4 : decide ((ln : Int) < (s9 : Int)) = false := by simp; omega
                have x7 : ¬ ln < s9 := by omega
                obtain ⟨kq, hkq⟩ : ∃ kq, kq = k + Q := ⟨_, rfl⟩
                have x5 : IntKind.u16.wrap (Q : Int) = (Q : Int) := IntWalk.u16_in _ (by omega)
                have x6 : IntKind.u16.wrap ((k : Int) + (Q : Int)) = (kq : Int) := by rw [IntWalk.u16_in _ (by omega)]; omega
                have HNF := Lib.hid hnf
                have HKQ := Lib.hid hkq
                have hkq2 : kq ≤ ln := by omega
                clear hs9 hfin hkq hnf
                go_upto_region 23 with fail
                go_quiet (fail)
                have kd : Kept (fun b => b = gb) wc (wr.drewN nq) := Hkw.out.drewN nq
                have Hwd := Lib.hid (Hw.out.drewN nq)
                generalize wr.drewN nq = wd at *
                clear b0 b1 b2 b3 b4 b5 x1 x2 x3
                obtain ⟨b0, b1, b2, b3, b4, b5⟩ := FB.out _ kd
                have Ji := HI5.out _ kd
                have f2 := Ji.free (o + 2)
                have Ji1 := Lib.hid (Ji.set (o + 2) (.int .u16 (kq : Int)))
                have KE := Lib.hid (show Kept (fun b => b = I ∨ b = gb) w (wd.setCell ⟨I, o + 2, none⟩ (.int .u16 (kq : Int))) from Kept.setCell (S := fun b => b = I ∨ b = gb) (p := ⟨I, o + 2, none⟩) ((Hk.out.trans (KC.out.mono (fun _ _ => False.elim))).trans (kd.mono (fun _ _ h => .inr h))) (fun _ => .inl rfl) _)
                have HBE := Lib.hid (show Blk (wd.setCell ⟨I, o + 2, none⟩ (.int .u16 (kq : Int))) gb t (u32s (sp X off ((L.take (q + Q)).map (hs + ·)))) from by rw [← HT.out]; exact Hwd.out.set_ne d1 _ _)
                clear Ji kd
                go_wp2
                go_roundw
                case rel => exact ⟨q + Q, j, kq, by go_num, hQm, hqL, Lib.hid ⟨(st, ln), HRJ.out, hkq2, by
                    rw [HD.out, HKQ.out]
                    simp only
                    rw [show st + k + Q = st + (k + Q) by omega, show ln - k + 1 - Q = ln - (k + Q) + 1 by have := HNF.out; omega]⟩, HBE, Lib.hid (by have h7 := Ji1.out; rw [List.set_set] at h7; exact h7), KE⟩
                case measure => simp only [intOf]; omega
    · have hqe : q = m := by omega
      have HQ := Lib.hid (show q = min m L.length by omega)
      have i1 : ¬ (q : Int) < (m : Int) := by omega
      clear hqe
      go_wp2
      go_ret
      exact ⟨q, j, k, HQ.out, rfl, Hb.out, Hi.out, Hk.out, .inr Hr.out⟩
end Go.Proofs
