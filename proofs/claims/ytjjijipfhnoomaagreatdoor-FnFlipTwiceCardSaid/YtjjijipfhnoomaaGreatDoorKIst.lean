/-
  runContainer16.intersect: what the runs of two containers have in common.
-/
import Derived.Test.YtjjijipfhnoomaaGreatDoorJRsb
import Derived.Test.YtjjijipfhnoomaaGreatDoorKAnr
import Derived.Test.YtjjijipfhnoomaaGreatDoorJIsl
namespace Go.Roar
open Go.RowKit Go.Proofs
/-- The parts of intersect: the runs found, the box of one run, the answer. -/
def IP (N Hr : Nat) (v x y : Value) (d : List (Nat × Nat)) : List HA := [O 2 114 v d.length (ivs d), B N 114 [x, y], B Hr 112 [.slice none 0 0]]
theorem IP.new {w W W2 : World} {Hr : Nat} (h : SS w [] W [B Hr 112 [.slice none 0 0]]) (hw : W2 = W.alloc (.cells #[.int .u16 0, .int .u16 0] 114)) : SS w [] W2 (IP W.heap.size Hr (.slice none 0 0) (.int .u16 0) (.int .u16 0) []) := by
  subst hw
  have h2 := h.new 114 [.int .u16 0, .int .u16 0]
  refine ⟨⟨fun A hA => ?_, by simpa [IP, O, B] using h2.sep.nd⟩, fun b hb => h2.sub b (by simpa [IP, O, B] using hb), h2.kept⟩
  simp only [IP, List.mem_cons, List.not_mem_nil, or_false] at hA
  rcases hA with rfl | rfl | rfl
  · exact ⟨rfl, .inl ⟨rfl, rfl⟩⟩
  · exact h2.get (by simp)
  · exact h2.get (by simp)
theorem IP.cells {w W : World} {N Hr : Nat} {v x y : Value} {d : List (Nat × Nat)} (h : SS w [] W (IP N Hr v x y d)) : W.cell? ⟨N, 0, none⟩ = some x ∧ W.cell? ⟨N, 1, none⟩ = some y ∧ W.cell? ⟨Hr, 0, none⟩ = some (.slice none 0 0) ∧ W.frozen? ⟨N, 0, none⟩ = false ∧ W.frozen? ⟨N, 1, none⟩ = false ∧ W.frozen? ⟨Hr, 0, none⟩ = false :=
  ⟨h.cell 1 rfl 0 rfl, h.cell 1 rfl 1 rfl, h.cell 2 rfl 0 rfl, h.free 1 rfl 0, h.free 1 rfl 1, h.free 2 rfl 0⟩
theorem IP.set {w W : World} {N Hr : Nat} {v x y : Value} {d : List (Nat × Nat)} (h : SS w [] W (IP N Hr v x y d)) (x' y' : Value) : SS w [] ((W.setCell ⟨N, 0, none⟩ x').setCell ⟨N, 1, none⟩ y') (IP N Hr v x' y' d) :=
  SS.store2 (L := [O 2 114 v d.length (ivs d)]) h x' y'
theorem IP.empty {w W : World} {N Hr : Nat} {v x y : Value} {d : List (Nat × Nat)} (h : SS w [] W (IP N Hr v x y d)) : SS w [] W (RC Hr (.slice none 0 0) []) :=
  rc_empty (SS.right (L := [O 2 114 v d.length (ivs d), B N 114 [x, y]]) h)
theorem IP.fin {w W : World} {N Hr : Nat} {v x y : Value} {d : List (Nat × Nat)} (h : SS w [] W (IP N Hr v x y d)) : SS w [] (W.setCell ⟨Hr, 0, none⟩ v) (RC Hr v d) := by
  have h1 := SS.store (L := [O 2 114 v d.length (ivs d), B N 114 [x, y]]) (R := []) h 0 v
  have h2 := h1.perm (List.perm_append_comm (l₁ := [O 2 114 v d.length (ivs d), B N 114 [x, y]]) (l₂ := [B Hr 112 [v]]))
  exact SS.left (L := [B Hr 112 [v], O 2 114 v d.length (ivs d)]) (M := [B N 114 [x, y]]) h2
theorem IP.push {w W : World} {N Hr : Nat} {v x y : Value} {d : List (Nat × Nat)} {s t : Nat} (h : SS w [] W ([] ++ O 2 114 v (d.length + 1) (ivs d ++ [.int .u16 (s : Int), .int .u16 ((t - s : Nat) : Int)]) :: [B N 114 [x, y], B Hr 112 [.slice none 0 0]])) : SS w [] W (IP N Hr v x y (d ++ [(s, t)])) := by
  have e : ivs (d ++ [(s, t)]) = ivs d ++ [.int .u16 (s : Int), .int .u16 ((t - s : Nat) : Int)] := by rw [ivs_app]; simp [ivs]
  unfold IP
  rw [e, List.length_append]
  exact h
/-- Six cells that lay there beforehand, beside what has been made. -/
theorem keep6 {w W : World} {L : List HA} {c1 c2 c3 c4 c5 c6 : Addr} {v1 v2 v3 v4 v5 v6 : Value} (h : SS w [] W L) (a1 : w.cell? c1 = some v1) (a2 : w.cell? c2 = some v2) (a3 : w.cell? c3 = some v3) (a4 : w.cell? c4 = some v4) (a5 : w.cell? c5 = some v5) (a6 : w.cell? c6 = some v6) :
    W.cell? c1 = some v1 ∧ W.cell? c2 = some v2 ∧ W.cell? c3 = some v3 ∧ W.cell? c4 = some v4 ∧ W.cell? c5 = some v5 ∧ W.cell? c6 = some v6 ∧ SS w [] W L :=
  have M := SS.mild h
  ⟨M.cell2 id a1, M.cell2 id a2, M.cell2 id a3, M.cell2 id a4, M.cell2 id a5, M.cell2 id a6, h⟩
/-- The parts of intersect, whatever the box holds. -/
def ISS (w W : World) (N Hr : Nat) (o : Value) (d : List (Nat × Nat)) : Prop := ∃ x y, SS w [] W (IP N Hr o x y d)
theorem ISS.quiet {w W W' : World} {N Hr : Nat} {o : Value} {d : List (Nat × Nat)} (h : ISS w W N Hr o d) (k : Mild W W') : ISS w W' N Hr o d := by
  obtain ⟨x, y, h⟩ := h
  exact ⟨x, y, h.quiet k⟩
theorem ISS.set {w W : World} {N Hr : Nat} {o : Value} {d : List (Nat × Nat)} (h : ISS w W N Hr o d) (x' y' : Value) : ISS w ((W.setCell ⟨N, 0, none⟩ x').setCell ⟨N, 1, none⟩ y') N Hr o d := by
  obtain ⟨x, y, h⟩ := h
  exact ⟨x', y', IP.set h x' y'⟩
theorem ISS.six {w W : World} {N Hr : Nat} {o : Value} {d : List (Nat × Nat)} {c1 c2 c3 c4 c5 c6 : Addr} {v1 v2 v3 v4 v5 v6 : Value} (h : ISS w W N Hr o d) (a1 : w.cell? c1 = some v1) (a2 : w.cell? c2 = some v2) (a3 : w.cell? c3 = some v3) (a4 : w.cell? c4 = some v4) (a5 : w.cell? c5 = some v5) (a6 : w.cell? c6 = some v6) :
    W.cell? c1 = some v1 ∧ W.cell? c2 = some v2 ∧ W.cell? c3 = some v3 ∧ W.cell? c4 = some v4 ∧ W.cell? c5 = some v5 ∧ W.cell? c6 = some v6 ∧ ISS w W N Hr o d := by
  obtain ⟨x, y, h⟩ := h
  have M := SS.mild h
  exact ⟨M.cell2 id a1, M.cell2 id a2, M.cell2 id a3, M.cell2 id a4, M.cell2 id a5, M.cell2 id a6, x, y, h⟩
/-- What the step answers at two runs. -/
def IslR (s al u bl : Nat) (o la lb : Bool) (l : Int) (x y : Nat) : Prop :=
  (o = false ∧ ¬ (u ≤ al ∧ s ≤ bl)) ∨ (o = true ∧ (u ≤ al ∧ s ≤ bl) ∧ x = max s u ∧ y = min al bl - max s u ∧ ((la = true ∧ bl < al ∧ l = (bl : Int) + 1) ∨ (la = false ∧ lb = true ∧ al < bl ∧ l = (al : Int) + 1) ∨ (la = false ∧ lb = false ∧ al = bl)))
end Go.Roar
namespace Go.Proofs
open Go.RowKit Go.Roar
attribute [local go_sem ↓] Go.wp_at_zero Go.wp_at_succ
theorem isl_any (s al u bl : Nat) (A B : Int) (w : World) (hA : A = al) (hB : B = bl) (hs : s ≤ al) (hu : u ≤ bl) (ha : al < 65536) (hb : bl < 65536) :
    Calls Tryz.prog 244 #[.int .i64 (s : Int), .int .i64 A, .int .i64 (u : Int), .int .i64 B] w fun ed w' => ∃ (o la lb : Bool) (l : Int) (x y : Nat), ed = .returned (.tuple #[.bool o, .bool la, .bool lb, .int .i64 l, .agg #[.int .u16 (x : Int), .int .u16 (y : Int)]]) ∧ IslR s al u bl o la lb l x y ∧ Mild w w' := by
  subst hA hB
  by_cases ho : u ≤ al ∧ s ≤ bl
  · rcases Nat.lt_trichotomy al bl with h | h | h
    · refine (islB_any s al u bl w hs hu ha hb ho h).mono ?_
      rintro ed w' ⟨rfl, k⟩
      exact ⟨true, false, true, _, max s u, al - max s u, rfl, .inr ⟨rfl, ho, rfl, by rw [Nat.min_eq_left (by omega)], .inr (.inl ⟨rfl, rfl, h, rfl⟩)⟩, k⟩
    · refine (islN_any s al u bl w hs hu ha hb ho h).mono ?_
      rintro ed w' ⟨rfl, k⟩
      exact ⟨true, false, false, _, max s u, al - max s u, rfl, .inr ⟨rfl, ho, rfl, by rw [Nat.min_eq_left (by omega)], .inr (.inr ⟨rfl, rfl, h⟩)⟩, k⟩
    · refine (islA_any s al u bl w hs hu ha hb ho h).mono ?_
      rintro ed w' ⟨rfl, k⟩
      exact ⟨true, true, false, _, max s u, bl - max s u, rfl, .inr ⟨rfl, ho, rfl, by rw [Nat.min_eq_right (by omega)], .inl ⟨rfl, h, rfl⟩⟩, k⟩
  · refine (islNo_any s al u bl w ha hb ho).mono ?_
    rintro ed w' ⟨rfl, k⟩
    exact ⟨false, false, false, 0, 0, 0, rfl, .inl ⟨rfl, ho⟩, k⟩

theorem findNext_int (p : Nat) (rs : List (Nat × Nat)) (start key : Nat) (T : Int) (w : World) (hT : T = start) (hR : RCV w p rs) (hr : RgOK 65536 rs) (h0 : 0 < rs.length) (hk : key ≤ 65536) (hs : start ≤ rs.length) (hl : rs.length ≤ 65536)
    (hprev : ∀ r : Nat × Nat, 0 < start → rs[start - 1]? = some r → r.2 < key) :
    Calls Tryz.prog 245 #[.pointer (some ⟨p, 0, none⟩), .int .i64 T, .int .i64 (key : Int)] w fun ed w' => NextR rs start key w ed w' := by
  subst hT; exact findNext_any p rs start key w hR hr h0 hk hs hl hprev
/-- What intersect answers. -/
def InterP (a b : List (Nat × Nat)) (w : World) (ed : Ending) (w' : World) : Prop := ∃ z v m, ed = .returned (.pointer (some ⟨z, 0, none⟩)) ∧ RgOK 65536 m ∧ (∀ x, inR m x ↔ inR a x ∧ inR b x) ∧ SS w [] w' (RC z v m)

set_option maxRecDepth 100000 in
set_option maxHeartbeats 8000000 in
theorem intersect_any (p q : Nat) (a b : List (Nat × Nat)) (w : World) (hA : RCV w p a) (hB : RCV w q b) (ha : RgOK 65536 a) (hb : RgOK 65536 b) (ha0 : 0 < a.length) (hb0 : 0 < b.length) :
    Calls Tryz.prog 236 #[.pointer (some ⟨p, 0, none⟩), .pointer (some ⟨q, 0, none⟩)] w fun ed w' => ∃ z v m, ed = .returned (.pointer (some ⟨z, 0, none⟩)) ∧ RgOK 65536 m ∧ (∀ x, inR m x ↔ inR a x ∧ inR b x) ∧ SS w [] w' (RC z v m) := by
  obtain ⟨iU, va1, va2, va3, va4⟩ := info_parts infoIv
  have hal := ha.many
  have hbl := hb.many
  have RA := Lib.hid hA
  have RB := Lib.hid hB
  obtain ⟨ga, ca, hca, a0, a1⟩ := hA
  obtain ⟨gb, cb, hcb, b0, b1⟩ := hB
  have HA := Lib.hid a1
  have HB := Lib.hid b1
  obtain ⟨r0, hr0⟩ : ∃ r, a[0]? = some r := ⟨_, List.getElem?_eq_getElem ha0⟩
  obtain ⟨q0, hq0⟩ : ∃ r, b[0]? = some r := ⟨_, List.getElem?_eq_getElem hb0⟩
  obtain ⟨x1, x2⟩ := a1 0 r0 hr0
  obtain ⟨y1, y2⟩ := b1 0 q0 hq0
  have k1 := rg_at ha hr0
  have k2 := rg_at hb hq0
  have HIN := Lib.hid (IN.start ha hb hr0 hq0)
  have HR0 := Lib.hid hr0
  have HQ0 := Lib.hid hq0
  have OKa := Lib.hid ha
  have OKb := Lib.hid hb
  clear a1 b1 hr0 hq0 ha hb
  obtain ⟨na, hna⟩ : ∃ n, n = a.length := ⟨_, rfl⟩
  obtain ⟨nb, hnb⟩ : ∃ n, n = b.length := ⟨_, rfl⟩
  rw [← hna] at ha0 hal a0 hca
  rw [← hnb] at hb0 hbl b0 hcb
  have HNA := Lib.hid hna
  have HNB := Lib.hid hnb
  clear hna hnb
  have i1 : ¬ (na : Int) = 0 := by omega
  have i2 : ¬ (nb : Int) = 0 := by omega
  have i1b : ((na : Int) == 0) = false := by rw [beq_eq_false_iff_ne]; omega
  have i2b : ((nb : Int) == 0) = false := by rw [beq_eq_false_iff_ne]; omega
  have i3 : (0 : Int) < (na : Int) := by omega
  have i4 : (0 : Int) < (nb : Int) := by omega
  have S0 := SS.new (w := w) (L := []) (SS.init (w := w) (L := []) ⟨by simp, by simp⟩) 112 [.slice none 0 0]
  simp only [Nat.zero_mul, Nat.zero_add] at x1 x2 y1 y2
  have m0 : Mild w (w.alloc (.cells #[.slice none 0 0] 112)) := (Kept.refl _ _).alloc _
  have a0' := m0.cell2 id a0
  have b0' := m0.cell2 id b0
  have x1' := m0.cell2 id x1
  have x2' := m0.cell2 id x2
  have y1' := m0.cell2 id y1
  have y2' := m0.cell2 id y2
  have HOV := Lib.hid (fun (W : World) => show Calls Tryz.prog 243 #[.agg #[.int .u16 (r0.1 : Int), .int .u16 ((r0.2 - r0.1 : Nat) : Int)], .agg #[.int .u16 (q0.1 : Int), .int .u16 ((q0.2 - q0.1 : Nat) : Int)]] W fun ed w' => ed = .returned (.bool (decide (q0.1 ≤ r0.2 ∧ r0.1 ≤ q0.2))) ∧ Mild W w' from by
    have := haveOv_any r0.1 (r0.2 - r0.1) q0.1 (q0.2 - q0.1) W (by omega) (by omega)
    rwa [show r0.1 + (r0.2 - r0.1) = r0.2 by omega, show q0.1 + (q0.2 - q0.1) = q0.2 by omega] at this)
  have HNO := Lib.hid (fun (h1 : na = 1 ∧ nb = 1) (h2 : ¬ (q0.1 ≤ r0.2 ∧ r0.1 ≤ q0.2)) => show ∀ x, inR [] x ↔ inR a x ∧ inR b x from fun x => by
    have ea : a = [r0] := by
      have hl : a.length = 1 := by rw [← HNA.out]; exact h1.1
      obtain ⟨z, rfl⟩ := List.length_eq_one_iff.1 hl
      have := HR0.out
      simp at this
      rw [this]
    have eb : b = [q0] := by
      have hl : b.length = 1 := by rw [← HNB.out]; exact h1.2
      obtain ⟨z, rfl⟩ := List.length_eq_one_iff.1 hl
      have := HQ0.out
      simp at this
      rw [this]
    rw [ea, eb, inR_one, inR_one]
    exact ⟨fun h => absurd h (inR_nil x), fun h => absurd ⟨by omega, by omega⟩ h2⟩)
  generalize hov : decide (q0.1 ≤ r0.2 ∧ r0.1 ≤ q0.2) = ov at *
  have Hov := Lib.hid hov
  clear hov
  go_enter Tryz.func236, Tryz.ntmps236
  go_wp2_with fail
  go_step3
  go_upto_region 7 with fail
  generalize hH : w.heap.size = Hr at *
  generalize hW : w.alloc (.cells #[.slice none 0 0] 112) = W0 at *
  clear hW hH
  have HS0 := Lib.hid S0
  clear S0
  obtain ⟨bb, hbb⟩ : ∃ bb, bb = decide (na = 1 ∧ nb = 1) := ⟨_, rfl⟩
  have Hbb := Lib.hid hbb
  clear hbb
  go_cut [45] (fun s wx => s = .bool bb ∧ wx = W0)
  case first =>
    have hbb := Hbb.out
    by_cases h1 : na = 1
    · subst h1
      by_cases h2 : nb = 1
      · subst h2
        go_wp2
        go_meet
        case rel => exact ⟨by rw [hbb]; rfl, rfl⟩
      · have i5 : ((nb : Int) == 1) = false := by rw [beq_eq_false_iff_ne]; omega
        have i6 : ¬ (nb : Int) = 1 := by omega
        go_wp2
        go_meet
        case rel => exact ⟨by rw [hbb, decide_eq_false (by omega)], rfl⟩
    · have i5 : ((na : Int) == 1) = false := by rw [beq_eq_false_iff_ne]; omega
      have i6 : ¬ (na : Int) = 1 := by omega
      go_wp2
      go_meet
      case rel => exact ⟨by rw [hbb, decide_eq_false (by omega)], rfl⟩
  case rest =>
    obtain ⟨rfl, rfl⟩ := hcut
    go_upto_if 45 with fail
    go_cut [8] (fun s8 wx => s8 = .pointer (some ⟨Hr, 0, none⟩) ∧ Hid (SS w [] wx [B Hr 112 [.slice none 0 0]]))
    case first =>
      as_aux_lemma =>
        cases bb
        · go_wp2_with fail
          go_meet
          case rel => exact ⟨rfl, HS0⟩
        · have HSd := Lib.hid HS0.out.drew
          have m1 := SS.mild HSd.out
          have a2 := m1.cell2 id a0
          have b2 := m1.cell2 id b0
          have x3 := m1.cell2 id x1
          have x4 := m1.cell2 id x2
          have y3 := m1.cell2 id y1
          have y4 := m1.cell2 id y2
          cases ov
          · have hbb := Hbb.out
            have hnn : na = 1 ∧ nb = 1 := of_decide_eq_true hbb.symm
            have hno : ¬ (q0.1 ≤ r0.2 ∧ r0.1 ≤ q0.2) := of_decide_eq_false Hov.out
            have HF := Lib.hid (HNO.out hnn hno)
            clear hbb hnn hno
            go_upto_region 8 with fail
            go_region_held3 (fun w' => w'.cell? ⟨p, 0, none⟩ = some (.slice (some ⟨ga, 0, none⟩) na ca) ∧ w'.cell? ⟨q, 0, none⟩ = some (.slice (some ⟨gb, 0, none⟩) nb cb) ∧ w'.cell? ⟨ga, 0, none⟩ = some (.int .u16 (r0.1 : Int)) ∧ w'.cell? ⟨ga, 1, none⟩ = some (.int .u16 ((r0.2 - r0.1 : Nat) : Int)) ∧ w'.cell? ⟨gb, 0, none⟩ = some (.int .u16 (q0.1 : Int)) ∧ w'.cell? ⟨gb, 1, none⟩ = some (.int .u16 ((q0.2 - q0.1 : Nat) : Int)) ∧ SS w [] w' [B Hr 112 [.slice none 0 0]]) (first
              | exact keep6 HSd.out a0 b0 x1 x2 y1 y2
              | exact keep6 (SS.quiet (And.right (And.right (And.right (And.right (And.right (And.right (by assumption))))))) hk) a0 b0 x1 x2 y1 y2) (first
              | (go_at_call 243; (with_reducible refine (HOV.out _).mono ?_); rintro ed w1 ⟨rfl, hk⟩; have S1 := Lib.hid (HSd.out.quiet hk))
              | fail)
            all_goals
              go_wp2_with fail
              try rw [Exit.noGoto_ret]
              go_ret
              exact ⟨Hr, .slice none 0 0, [], rfl, RgOK.nil _, HF.out, rc_empty S1.out⟩
          · go_upto_region 8 with fail
            go_region_held3 (fun w' => w'.cell? ⟨p, 0, none⟩ = some (.slice (some ⟨ga, 0, none⟩) na ca) ∧ w'.cell? ⟨q, 0, none⟩ = some (.slice (some ⟨gb, 0, none⟩) nb cb) ∧ w'.cell? ⟨ga, 0, none⟩ = some (.int .u16 (r0.1 : Int)) ∧ w'.cell? ⟨ga, 1, none⟩ = some (.int .u16 ((r0.2 - r0.1 : Nat) : Int)) ∧ w'.cell? ⟨gb, 0, none⟩ = some (.int .u16 (q0.1 : Int)) ∧ w'.cell? ⟨gb, 1, none⟩ = some (.int .u16 ((q0.2 - q0.1 : Nat) : Int)) ∧ SS w [] w' [B Hr 112 [.slice none 0 0]]) (first
              | exact keep6 HSd.out a0 b0 x1 x2 y1 y2
              | exact keep6 (SS.quiet (And.right (And.right (And.right (And.right (And.right (And.right (by assumption))))))) hk) a0 b0 x1 x2 y1 y2) (first
              | (go_at_call 243; (with_reducible refine (HOV.out _).mono ?_); rintro ed w1 ⟨rfl, hk⟩; have S1 := Lib.hid (HSd.out.quiet hk))
              | fail)
            all_goals
              go_wp2_with fail
              go_meet
              case rel => exact ⟨rfl, S1⟩
    case rest =>
      obtain ⟨rfl, HS1⟩ := hcut
      clear HOV HNO HS0 m0 a0' b0' x1' x2' y1' y2' Hbb Hov
      have S2 := Lib.hid (IP.new HS1.out rfl)
      have M2 := SS.mild HS1.out
      have a2 := M2.cell2 id a0
      have b2 := M2.cell2 id b0
      have x3 := M2.cell2 id x1
      have x4 := M2.cell2 id x2
      have y3 := M2.cell2 id y1
      have y4 := M2.cell2 id y2
      go_wp2_with fail
      go_step3
      go_wp2_with fail
      clear a2 b2 x3 x4 y3 y4 M2 HS1 x1 x2 y1 y2
      generalize hN : wc.heap.size = N at *
      generalize (wc.alloc (Obj.cells #[Value.int IntKind.u16 0, Value.int IntKind.u16 0] 114)) = W1 at *
      clear hN
      have hal2 := hal
      have hbl2 := hbl
      have ISL := Lib.hid (fun (s al u bl : Nat) (A B : Int) (W : World) => isl_any s al u bl A B W)
      have LA := Lib.hid (fun (r : Nat × Nat) (W : World) (h : r.1 ≤ r.2 ∧ r.2 < 65536) => last_r r W h)
      go_loopw [9, 10, 11, 12, 13] (fun o i j s u wr => ∃ (I J S U : Nat) (x y : Value) (d : List (Nat × Nat)), i = .int .i64 (I : Int) ∧ j = .int .i64 (J : Int) ∧ s = .int .i64 (S : Int) ∧ u = .int .i64 (U : Int) ∧ I < na ∧ J < nb ∧ Hid (IN a b I J S U d) ∧ Hid (SS w [] wr (IP N Hr o x y d))) (fun _ i j _ _ _ => (na - (intOf i).toNat) + (nb - (intOf j).toNat))
      case atStart => exact ⟨0, 0, r0.1, q0.1, _, _, [], rfl, rfl, rfl, rfl, ha0, hb0, HIN, S2⟩
      case round =>
        clear S2 HIN
        obtain ⟨I, J, S, U, x, y, d, rfl, rfl, rfl, rfl, hI, hJ, HN, HS⟩ := hrel
        obtain ⟨A, c, rfl, _⟩ := Own.sliceOf (HS.out.get (A := O 2 114 u9 d.length (ivs d)) (by simp [IP]))
        have M := SS.mild HS.out
        have hd := HN.out.ok.many
        obtain ⟨r, hr⟩ : ∃ r, a[I]? = some r := ⟨_, List.getElem?_eq_getElem (by rw [← HNA.out]; exact hI)⟩
        obtain ⟨v, hv⟩ : ∃ r, b[J]? = some r := ⟨_, List.getElem?_eq_getElem (by rw [← HNB.out]; exact hJ)⟩
        have r1 := rg_at OKa.out hr
        have r2 := rg_at OKb.out hv
        have hs1 := HN.out.ha r hr
        have hs2 := HN.out.hb v hv
        obtain ⟨x1, x2⟩ := HA.out I r hr
        obtain ⟨y1, y2⟩ := HB.out J v hv
        have Hr9 := Lib.hid hr
        have Hv9 := Lib.hid hv
        have j1 : (I : Int) < (na : Int) := by omega
        have j2 : (J : Int) < (nb : Int) := by omega
        clear hr hv
        go_upto_region 20 with fail
        have HSd := Lib.hid HS.out.drew
        have a2 := (SS.mild HSd.out).cell2 id a0
        have b2 := (SS.mild HSd.out).cell2 id b0
        have x3 := (SS.mild HSd.out).cell2 id x1
        have x4 := (SS.mild HSd.out).cell2 id x2
        have y3 := (SS.mild HSd.out).cell2 id y1
        have y4 := (SS.mild HSd.out).cell2 id y2
        go_cut [15, 16, 17, 18] (fun l o la lb wx => ∃ (O' LA' LB' : Bool) (L : Int) (X Y : Nat), l = .int .i64 L ∧ o = .bool O' ∧ la = .bool LA' ∧ lb = .bool LB' ∧ Hid (IslR S r.2 U v.2 O' LA' LB' L X Y) ∧ Hid (SS w [] wx (IP N Hr (.slice A d.length c) (.int .u16 (X : Int)) (.int .u16 (Y : Int)) d)))
        case first =>
          as_aux_lemma =>
            have HI0 := Lib.hid (show ISS w wr.drew N Hr (.slice A d.length c) d from ⟨_, _, HSd.out⟩)
            go_region_held3 (fun w' => w'.cell? ⟨p, 0, none⟩ = some (.slice (some ⟨ga, 0, none⟩) na ca) ∧ w'.cell? ⟨q, 0, none⟩ = some (.slice (some ⟨gb, 0, none⟩) nb cb) ∧ w'.cell? ⟨ga, I * 2, none⟩ = some (.int .u16 (r.1 : Int)) ∧ w'.cell? ⟨ga, I * 2 + 1, none⟩ = some (.int .u16 ((r.2 - r.1 : Nat) : Int)) ∧ w'.cell? ⟨gb, J * 2, none⟩ = some (.int .u16 (v.1 : Int)) ∧ w'.cell? ⟨gb, J * 2 + 1, none⟩ = some (.int .u16 ((v.2 - v.1 : Nat) : Int)) ∧ ISS w w' N Hr (.slice A d.length c) d) (first
              | exact ISS.six HI0.out a0 b0 x1 x2 y1 y2
              | exact ISS.six (ISS.quiet (And.right (And.right (And.right (And.right (And.right (And.right (by assumption))))))) hk) a0 b0 x1 x2 y1 y2
              | exact ISS.six (ISS.set (And.right (And.right (And.right (And.right (And.right (And.right (by assumption))))))) _ _) a0 b0 x1 x2 y1 y2) (first
              | (go_at_call 68; (with_reducible refine (LA.out r _ r1).mono ?_); rintro ed w4 ⟨rfl, hk⟩)
              | (go_at_call 68; (with_reducible refine (LA.out v _ r2).mono ?_); rintro ed w5 ⟨rfl, hk⟩)
              | (go_at_call 244; refine (ISL.out S r.2 U v.2 _ _ _ (by first | rfl | exact IntWalk.i64_in _ (by omega)) (by first | rfl | exact IntWalk.i64_in _ (by omega)) hs1.2 hs2.2 r1.2 r2.2).mono ?_; rintro ed w6 ⟨O', LA', LB', L, X, Y, rfl, hI, hk⟩; have HI := Lib.hid hI; obtain ⟨x8, y8, h8⟩ := ISS.quiet (And.right (And.right (And.right (And.right (And.right (And.right (by assumption))))))) hk; have S6 := Lib.hid h8; obtain ⟨n1, n2, -, n4, n5, -⟩ := IP.cells h8; clear hI h8)
              | fail)
            all_goals
              have S7 := Lib.hid (IP.set S6.out (.int .u16 (X : Int)) (.int .u16 (Y : Int)))
              clear S6 n1 n2 n4 n5
              go_wp2_with fail
              go_meet
              case rel => exact ⟨O', LA', LB', L, X, Y, rfl, rfl, rfl, rfl, HI, S7⟩
        case rest =>
          obtain ⟨O', LA', LB', L, X, Y, rfl, rfl, rfl, rfl, HI, HS2⟩ := hcut
          clear HSd a2 b2 x3 x4 y3 y4 HS M x1 x2 y1 y2
          rcases HI.out with ⟨rfl, hno⟩ | ⟨rfl, ho, hX, hY, hl⟩
          · have M2 := SS.mild HS2.out
            by_cases hc : S < U
            · have hlt : r.2 < U := by omega
              have i5 : (S : Int) < (U : Int) := by omega
              have FN := Lib.hid (fun (T : Int) (W : World) (hT : T = ((I + 1 : Nat) : Int)) (k : Mild w W) => findNext_int p a (I + 1) U T W hT (RA.out.mild k) OKa.out (by rw [← HNA.out]; omega) (by omega) (by rw [← HNA.out]; omega) (by rw [← HNA.out]; omega) (fun z _ hz => by rw [show I + 1 - 1 = I by omega, Hr9.out] at hz; cases hz; exact hlt))
              as_aux_lemma =>
                clear hno
                go_upto_region 24 with (first
                  | (go_at_call 245; refine (FN.out _ _ (by omega) M2).mono ?_; rintro ed w7 ⟨k, dn, rfl, k7, hd1, hd2⟩; have HD1 := Lib.hid hd1; have HD2 := Lib.hid hd2; have S7 := Lib.hid (HS2.out.quiet k7); clear hd1 hd2 k7)
                  | fail)
                cases dn
                · obtain ⟨d1, d2, d3⟩ := HD2.out rfl
                  obtain ⟨q', hq'⟩ : ∃ q, a[k]? = some q := ⟨_, List.getElem?_eq_getElem d2⟩
                  have HN2 := Lib.hid (HN.out.skipA OKa.out Hr9.out hc hlt (by omega) (fun m z e1 e2 e3 => d3 m z (by omega) e2 e3) hq')
                  rw [← HNA.out] at d2
                  obtain ⟨z1, z2⟩ := HA.out k q' hq'
                  have M7 := SS.mild S7.out
                  have a7 := M7.cell2 id a0
                  have z3 := M7.cell2 id z1
                  have j7 : (k : Int) < (na : Int) := by omega
                  have q16 := rg_at OKa.out hq'
                  clear z1 z2 hq' d3 HD1 HD2
                  go_wp2_with fail
                  go_roundw
                  case rel => exact ⟨k, J, q'.1, U, _, _, d, rfl, rfl, rfl, rfl, d2, hJ, HN2, S7⟩
                  case measure => simp only [intOf]; omega
                · have hend := HD1.out rfl
                  clear HD1 HD2
                  have Mem := Lib.hid (HN.out.endA OKa.out Hr9.out hlt (fun m z e1 e2 => by rw [List.getElem?_eq_none (by omega)] at e2; cases e2))
                  clear HI
                  by_cases hd0 : d.length = 0
                  · have e0 : d = [] := List.eq_nil_of_length_eq_zero hd0
                    have i8 : ((d.length : Int) == 0) = true := by rw [beq_iff_eq]; omega
                    have i9 : (d.length : Int) = 0 := by omega
                    have HM := Lib.hid (show ∀ x, inR [] x ↔ inR a x ∧ inR b x from by have := Mem.out; rw [e0] at this; exact this)
                    clear hd0 e0
                    go_wp2_with fail
                    try rw [Exit.noGoto_ret]
                    go_ret
                    exact ⟨Hr, .slice none 0 0, [], rfl, RgOK.nil _, HM.out, IP.empty S7.out⟩
                  · have i8 : ((d.length : Int) == 0) = false := by rw [beq_eq_false_iff_ne]; omega
                    have i9 : ¬ (d.length : Int) = 0 := by omega
                    obtain ⟨-, -, n3, -, -, n6⟩ := IP.cells S7.out
                    clear hd0
                    go_wp2_with fail
                    try rw [Exit.noGoto_ret]
                    go_ret
                    exact ⟨Hr, _, d, rfl, HN.out.ok, Mem.out, IP.fin S7.out⟩
            · have hlt : v.2 < S := by omega
              have hc2 : U < S := by omega
              have i5 : ¬ (S : Int) < (U : Int) := by omega
              have i6 : (U : Int) < (S : Int) := by omega
              have FN := Lib.hid (fun (T : Int) (W : World) (hT : T = ((J + 1 : Nat) : Int)) (k : Mild w W) => findNext_int q b (J + 1) S T W hT (RB.out.mild k) OKb.out (by rw [← HNB.out]; omega) (by omega) (by rw [← HNB.out]; omega) (by rw [← HNB.out]; omega) (fun z _ hz => by rw [show J + 1 - 1 = J by omega, Hv9.out] at hz; cases hz; exact hlt))
              as_aux_lemma =>
                clear hno hc
                go_upto_region 28 with (first
                  | (go_at_call 245; refine (FN.out _ _ (by omega) M2).mono ?_; rintro ed w7 ⟨k, dn, rfl, k7, hd1, hd2⟩; have HD1 := Lib.hid hd1; have HD2 := Lib.hid hd2; have S7 := Lib.hid (HS2.out.quiet k7); clear hd1 hd2 k7)
                  | fail)
                cases dn
                · obtain ⟨d1, d2, d3⟩ := HD2.out rfl
                  obtain ⟨q', hq'⟩ : ∃ q, b[k]? = some q := ⟨_, List.getElem?_eq_getElem d2⟩
                  have HN2 := Lib.hid (HN.out.swap.skipA OKb.out Hv9.out hc2 hlt (by omega) (fun m z e1 e2 e3 => d3 m z (by omega) e2 e3) hq').swap
                  rw [← HNB.out] at d2
                  obtain ⟨z1, z2⟩ := HB.out k q' hq'
                  have M7 := SS.mild S7.out
                  have b7 := M7.cell2 id b0
                  have z3 := M7.cell2 id z1
                  have j7 : (k : Int) < (nb : Int) := by omega
                  have q16 := rg_at OKb.out hq'
                  clear z1 z2 hq' d3 HD1 HD2
                  go_wp2_with fail
                  go_roundw
                  case rel => exact ⟨I, k, S, q'.1, _, _, d, rfl, rfl, rfl, rfl, hI, d2, HN2, S7⟩
                  case measure => simp only [intOf]; omega
                · have hend := HD1.out rfl
                  clear HD1 HD2
                  have Mem := Lib.hid (fun x => (HN.out.swap.endA OKb.out Hv9.out hlt (fun m z e1 e2 => by rw [List.getElem?_eq_none (by omega)] at e2; cases e2) x).trans and_comm)
                  clear HI
                  by_cases hd0 : d.length = 0
                  · have e0 : d = [] := List.eq_nil_of_length_eq_zero hd0
                    have i8 : ((d.length : Int) == 0) = true := by rw [beq_iff_eq]; omega
                    have i9 : (d.length : Int) = 0 := by omega
                    have HM := Lib.hid (show ∀ x, inR [] x ↔ inR a x ∧ inR b x from by have := Mem.out; rw [e0] at this; exact this)
                    clear hd0 e0
                    go_wp2_with fail
                    try rw [Exit.noGoto_ret]
                    go_ret
                    exact ⟨Hr, .slice none 0 0, [], rfl, RgOK.nil _, HM.out, IP.empty S7.out⟩
                  · have i8 : ((d.length : Int) == 0) = false := by rw [beq_eq_false_iff_ne]; omega
                    have i9 : ¬ (d.length : Int) = 0 := by omega
                    obtain ⟨-, -, n3, -, -, n6⟩ := IP.cells S7.out
                    clear hd0
                    go_wp2_with fail
                    try rw [Exit.noGoto_ret]
                    go_ret
                    exact ⟨Hr, _, d, rfl, HN.out.ok, Mem.out, IP.fin S7.out⟩
          · have HX := Lib.hid hX
            have HY := Lib.hid (show Y = min r.2 v.2 - X from by rw [hY, hX])
            have Over := Lib.hid (HN.out.over OKa.out Hr9.out Hv9.out ho.2 ho.1)
            have n7 : (d.length : Int) + 1 ≠ 0 := by omega
            have n8 : (((d.length : Int) + 1) == 0) = false := by rw [beq_eq_false_iff_ne]; omega
            obtain ⟨m1, m2, -, m4, m5, -⟩ := IP.cells HS2.out
            clear hX hY HI
            rcases hl with ⟨rfl, hvr, rfl⟩ | ⟨rfl, rfl, hvr, rfl⟩ | ⟨rfl, rfl, hvr⟩
            · as_aux_lemma =>
                go_upto_region 37 with (first
                  | (at_builtin; refine wpList_append_ss rfl (.tmp 160) (.tmp 162) 110 rfl 114 iU (.agg #[.int .u16 (0 : Int), .int .u16 (0 : Int)]) 2 4 undIvs va1 va2 va3 va4 rfl (by decide) w [] [] _ _ _ _ rfl (SS.alloc HS2.out _) ⟨wc.heap.size, 0, none⟩ 1 1 [.int .u16 (X : Int), .int .u16 (Y : Int)] rfl rfl (Blk.news (Blk.new _ _ _)) (by simp [Value.oneCell']) (by unfold maxLen; omega) (by omega) ?_; intro va wa Sa; have SP := Lib.hid (IP.push (s := max S U) (t := min r.2 v.2) (by rw [← HX.out, ← HY.out]; exact Sa)); obtain ⟨g9, c9, rfl, _, _⟩ := Own.shape (Sa.get (A := O 2 114 va (d.length + 1) (ivs d ++ [.int .u16 (X : Int), .int .u16 (Y : Int)])) (by simp)) (by omega); clear Sa)
                  | fail)
                clear m1 m2 m4 m5 HX HY
                have MP := SS.mild SP.out
                by_cases hJ2 : J + 1 < nb
                · obtain ⟨q', hq'⟩ : ∃ q, b[J + 1]? = some q := ⟨_, List.getElem?_eq_getElem (by rw [← HNB.out]; exact hJ2)⟩
                  have HN2 := Lib.hid (HN.out.leftA OKa.out OKb.out Hr9.out Hv9.out ho.2 ho.1 hvr hq')
                  obtain ⟨z1, z2⟩ := HB.out (J + 1) q' hq'
                  have b7 := MP.cell2 id b0
                  have z3 := MP.cell2 id z1
                  have i8 : ¬ (nb : Int) ≤ (J : Int) + 1 := by omega
                  have i9 : ((J : Int) + 1) < (nb : Int) := by omega
                  have q16 := rg_at OKb.out hq'
                  clear z1 z2 hq'
                  go_wp2_with fail
                  go_roundw
                  case rel => exact ⟨I, J + 1, v.2 + 1, q'.1, _, _, _, rfl, by go_num, by go_num, rfl, hI, hJ2, HN2, SP⟩
                  case measure => simp only [intOf]; omega
                · have hno : b[J + 1]? = none := List.getElem?_eq_none (by rw [← HNB.out]; omega)
                  have i8 : (nb : Int) ≤ (J : Int) + 1 := by omega
                  have Mem := Lib.hid (HN.out.fin OKa.out OKb.out Hr9.out Hv9.out ho.2 ho.1 (by omega) hno)
                  obtain ⟨-, -, n3, -, -, n6⟩ := IP.cells SP.out
                  go_wp2_with fail
                  try rw [Exit.noGoto_ret]
                  go_ret
                  exact ⟨Hr, _, d ++ [(max S U, min r.2 v.2)], rfl, Over.out.1, Mem.out, IP.fin SP.out⟩
            · as_aux_lemma =>
                go_upto_region 37 with (first
                  | (at_builtin; refine wpList_append_ss rfl (.tmp 160) (.tmp 162) 110 rfl 114 iU (.agg #[.int .u16 (0 : Int), .int .u16 (0 : Int)]) 2 4 undIvs va1 va2 va3 va4 rfl (by decide) w [] [] _ _ _ _ rfl (SS.alloc HS2.out _) ⟨wc.heap.size, 0, none⟩ 1 1 [.int .u16 (X : Int), .int .u16 (Y : Int)] rfl rfl (Blk.news (Blk.new _ _ _)) (by simp [Value.oneCell']) (by unfold maxLen; omega) (by omega) ?_; intro va wa Sa; have SP := Lib.hid (IP.push (s := max S U) (t := min r.2 v.2) (by rw [← HX.out, ← HY.out]; exact Sa)); obtain ⟨g9, c9, rfl, _, _⟩ := Own.shape (Sa.get (A := O 2 114 va (d.length + 1) (ivs d ++ [.int .u16 (X : Int), .int .u16 (Y : Int)])) (by simp)) (by omega); clear Sa)
                  | fail)
                clear m1 m2 m4 m5 HX HY
                have MP := SS.mild SP.out
                have Hsw := Lib.hid (show max U S = max S U ∧ min v.2 r.2 = min r.2 v.2 from ⟨Nat.max_comm _ _, Nat.min_comm _ _⟩)
                by_cases hI2 : I + 1 < na
                · obtain ⟨q', hq'⟩ : ∃ q, a[I + 1]? = some q := ⟨_, List.getElem?_eq_getElem (by rw [← HNA.out]; exact hI2)⟩
                  have HN2 := Lib.hid (show IN a b (I + 1) J q'.1 (r.2 + 1) (d ++ [(max S U, min r.2 v.2)]) from by
                    have := HN.out.swap.leftA OKb.out OKa.out Hv9.out Hr9.out ho.1 ho.2 hvr hq'
                    rw [Hsw.out.1, Hsw.out.2] at this
                    exact this.swap)
                  obtain ⟨z1, z2⟩ := HA.out (I + 1) q' hq'
                  have a7 := MP.cell2 id a0
                  have z3 := MP.cell2 id z1
                  have i8 : ¬ (na : Int) ≤ (I : Int) + 1 := by omega
                  have i9 : ((I : Int) + 1) < (na : Int) := by omega
                  have q16 := rg_at OKa.out hq'
                  clear z1 z2 hq'
                  go_wp2_with fail
                  go_roundw
                  case rel => exact ⟨I + 1, J, q'.1, r.2 + 1, _, _, _, by go_num, rfl, rfl, by go_num, hI2, hJ, HN2, SP⟩
                  case measure => simp only [intOf]; omega
                · have hno : a[I + 1]? = none := List.getElem?_eq_none (by rw [← HNA.out]; omega)
                  have i8 : (na : Int) ≤ (I : Int) + 1 := by omega
                  have Mem := Lib.hid (show ∀ x, inR (d ++ [(max S U, min r.2 v.2)]) x ↔ inR a x ∧ inR b x from fun x => by
                    have := HN.out.swap.fin OKb.out OKa.out Hv9.out Hr9.out ho.1 ho.2 (by omega) hno x
                    rw [Hsw.out.1, Hsw.out.2] at this
                    exact this.trans and_comm)
                  obtain ⟨-, -, n3, -, -, n6⟩ := IP.cells SP.out
                  go_wp2_with fail
                  try rw [Exit.noGoto_ret]
                  go_ret
                  exact ⟨Hr, _, d ++ [(max S U, min r.2 v.2)], rfl, Over.out.1, Mem.out, IP.fin SP.out⟩
            · as_aux_lemma =>
                go_upto_region 37 with (first
                  | (at_builtin; refine wpList_append_ss rfl (.tmp 160) (.tmp 162) 110 rfl 114 iU (.agg #[.int .u16 (0 : Int), .int .u16 (0 : Int)]) 2 4 undIvs va1 va2 va3 va4 rfl (by decide) w [] [] _ _ _ _ rfl (SS.alloc HS2.out _) ⟨wc.heap.size, 0, none⟩ 1 1 [.int .u16 (X : Int), .int .u16 (Y : Int)] rfl rfl (Blk.news (Blk.new _ _ _)) (by simp [Value.oneCell']) (by unfold maxLen; omega) (by omega) ?_; intro va wa Sa; have SP := Lib.hid (IP.push (s := max S U) (t := min r.2 v.2) (by rw [← HX.out, ← HY.out]; exact Sa)); obtain ⟨g9, c9, rfl, _, _⟩ := Own.shape (Sa.get (A := O 2 114 va (d.length + 1) (ivs d ++ [.int .u16 (X : Int), .int .u16 (Y : Int)])) (by simp)) (by omega); clear Sa)
                  | fail)
                clear m1 m2 m4 m5 HX HY
                have MP := SS.mild SP.out
                have Hsw := Lib.hid (show max U S = max S U ∧ min v.2 r.2 = min r.2 v.2 from ⟨Nat.max_comm _ _, Nat.min_comm _ _⟩)
                by_cases hI2 : I + 1 < na
                · obtain ⟨p', hp'⟩ : ∃ q, a[I + 1]? = some q := ⟨_, List.getElem?_eq_getElem (by rw [← HNA.out]; exact hI2)⟩
                  obtain ⟨z1, z2⟩ := HA.out (I + 1) p' hp'
                  have a7 := MP.cell2 id a0
                  have z3 := MP.cell2 id z1
                  have i8 : ¬ (na : Int) ≤ (I : Int) + 1 := by omega
                  have i9 : ((I : Int) + 1) < (na : Int) := by omega
                  have q16 := rg_at OKa.out hp'
                  have Hp' := Lib.hid hp'
                  clear z1 z2 hp'
                  by_cases hJ2 : J + 1 < nb
                  · obtain ⟨q', hq'⟩ : ∃ q, b[J + 1]? = some q := ⟨_, List.getElem?_eq_getElem (by rw [← HNB.out]; exact hJ2)⟩
                    have HN2 := Lib.hid (HN.out.leftN OKa.out OKb.out Hr9.out Hv9.out ho.2 ho.1 hvr.symm Hp'.out hq')
                    obtain ⟨z5, z6⟩ := HB.out (J + 1) q' hq'
                    have b7 := MP.cell2 id b0
                    have z7 := MP.cell2 id z5
                    have k8 : ¬ (nb : Int) ≤ (J : Int) + 1 := by omega
                    have k9 : ((J : Int) + 1) < (nb : Int) := by omega
                    have q17 := rg_at OKb.out hq'
                    clear z5 z6 hq'
                    go_wp2_with fail
                    go_roundw
                    case rel => exact ⟨I + 1, J + 1, p'.1, q'.1, _, _, _, by go_num, by go_num, rfl, rfl, hI2, hJ2, HN2, SP⟩
                    case measure => simp only [intOf]; omega
                  · have hno : b[J + 1]? = none := List.getElem?_eq_none (by rw [← HNB.out]; omega)
                    have k8 : (nb : Int) ≤ (J : Int) + 1 := by omega
                    have Mem := Lib.hid (HN.out.fin OKa.out OKb.out Hr9.out Hv9.out ho.2 ho.1 (by omega) hno)
                    obtain ⟨-, -, n3, -, -, n6⟩ := IP.cells SP.out
                    go_wp2_with fail
                    try rw [Exit.noGoto_ret]
                    go_ret
                    exact ⟨Hr, _, d ++ [(max S U, min r.2 v.2)], rfl, Over.out.1, Mem.out, IP.fin SP.out⟩
                · have hno : a[I + 1]? = none := List.getElem?_eq_none (by rw [← HNA.out]; omega)
                  have i8 : (na : Int) ≤ (I : Int) + 1 := by omega
                  have Mem := Lib.hid (show ∀ x, inR (d ++ [(max S U, min r.2 v.2)]) x ↔ inR a x ∧ inR b x from fun x => by
                    have := HN.out.swap.fin OKb.out OKa.out Hv9.out Hr9.out ho.1 ho.2 (by omega) hno x
                    rw [Hsw.out.1, Hsw.out.2] at this
                    exact this.trans and_comm)
                  obtain ⟨-, -, n3, -, -, n6⟩ := IP.cells SP.out
                  go_wp2_with fail
                  try rw [Exit.noGoto_ret]
                  go_ret
                  exact ⟨Hr, _, d ++ [(max S U, min r.2 v.2)], rfl, Over.out.1, Mem.out, IP.fin SP.out⟩
end Go.Proofs
