/-
  runContainer16.union with one interval: the runs melted with it.
-/
import Derived.Test.YtjjijipfhnoomaaGreatDoorJSr
import Derived.Test.YtjjijipfhnoomaaGreatDoorJAcNil
import Derived.WalkMore
namespace Go.Roar
open Go.RowKit Go.Proofs

/-- The parts of memory that the union makes: the intervals found so far, the interval of b, that of a, the melted one. -/
def UL (H : Nat) (v : Value) (m : List (Nat × Nat)) (A B' C D x l : Int) : List HA :=
  [O 2 114 v m.length (ivs m), B (H + 1 + 1) 114 [.int .u16 C, .int .u16 D], B (H + 1) 114 [.int .u16 A, .int .u16 B'], B H 114 [.int .u16 x, .int .u16 l]]
/-- Where the first loop stands. -/
def UState (w wr : World) (H : Nat) (rs : List (Nat × Nat)) (s t : Nat) (v na nb us : Value) : Prop :=
  ∃ (k j : Nat) (A B C D x l : Int), na = .int .i64 (j : Int) ∧ k ≤ j ∧ j ≤ rs.length ∧
    ((k = j ∧ nb = .int .i64 0 ∧ us = .bool false ∧ Melt rs s t k k s t ∧ SS w [] wr (UL H v (rs.take k) A B C D x l)) ∨
     (k = j ∧ nb = .int .i64 1 ∧ us = .bool false ∧ Melt rs s t k k s t ∧ (∀ r : Nat × Nat, rs[k]? = some r → t + 1 < r.1) ∧ SS w [] wr (UL H v (rs.take k ++ [(s, t)]) A B C D x l)) ∨
     ∃ X Y : Nat, nb = .int .i64 1 ∧ us = .bool true ∧ Melt rs s t k j X Y ∧ (∀ r : Nat × Nat, rs[j]? = some r → Y + 1 ≤ r.2) ∧ SS w [] wr (UL H v (rs.take k) A B C D (X : Int) ((Y - X : Nat) : Int)))

/-- Where the second loop stands. -/
def UNext (w wr : World) (H : Nat) (rs : List (Nat × Nat)) (s t : Nat) (v : Value) (k j : Nat) : Prop :=
  ∃ (X Y : Nat) (A B C D : Int), Melt rs s t k j X Y ∧ (∀ r : Nat × Nat, rs[j]? = some r → Y + 1 ≤ r.2) ∧ SS w [] wr (UL H v (rs.take k) A B C D (X : Int) ((Y - X : Nat) : Int))
theorem SS.store2 {w0 w : World} {F0 : List Nat} {L R : List HA} {b : Nat} {t : TypeId} {c d : Value} (h : SS w0 F0 w (L ++ B b t [c, d] :: R)) (x y : Value) :
    SS w0 F0 ((w.setCell ⟨b, 0, none⟩ x).setCell ⟨b, 1, none⟩ y) (L ++ B b t [x, y] :: R) := SS.store (SS.store h 0 x) 1 y
theorem UL.setC {w wr : World} {H : Nat} {v : Value} {m : List (Nat × Nat)} {A B' C D x l : Int} (h : SS w [] wr (UL H v m A B' C D x l)) (a b : Int) :
    SS w [] ((wr.setCell ⟨H + 1 + 1, 0, none⟩ (.int .u16 a)).setCell ⟨H + 1 + 1, 1, none⟩ (.int .u16 b)) (UL H v m A B' a b x l) :=
  SS.store2 (L := [O 2 114 v m.length (ivs m)]) h (.int .u16 a) (.int .u16 b)
theorem UL.setA {w wr : World} {H : Nat} {v : Value} {m : List (Nat × Nat)} {A B' C D x l : Int} (h : SS w [] wr (UL H v m A B' C D x l)) (a b : Int) :
    SS w [] ((wr.setCell ⟨H + 1, 0, none⟩ (.int .u16 a)).setCell ⟨H + 1, 1, none⟩ (.int .u16 b)) (UL H v m a b C D x l) :=
  SS.store2 (L := [O 2 114 v m.length (ivs m), B (H + 1 + 1) 114 [.int .u16 C, .int .u16 D]]) h (.int .u16 a) (.int .u16 b)
theorem UL.setX {w wr : World} {H : Nat} {v : Value} {m : List (Nat × Nat)} {A B' C D x l : Int} (h : SS w [] wr (UL H v m A B' C D x l)) (a b : Int) :
    SS w [] ((wr.setCell ⟨H, 0, none⟩ (.int .u16 a)).setCell ⟨H, 1, none⟩ (.int .u16 b)) (UL H v m A B' C D a b) :=
  SS.store2 (L := [O 2 114 v m.length (ivs m), B (H + 1 + 1) 114 [.int .u16 C, .int .u16 D], B (H + 1) 114 [.int .u16 A, .int .u16 B']]) h (.int .u16 a) (.int .u16 b)
/-- The cells of the three boxes. -/
theorem UL.cells {w wr : World} {H : Nat} {v : Value} {m : List (Nat × Nat)} {A B' C D x l : Int} (h : SS w [] wr (UL H v m A B' C D x l)) :
    (wr.cell? ⟨H, 0, none⟩ = some (.int .u16 x) ∧ wr.cell? ⟨H, 1, none⟩ = some (.int .u16 l)) ∧ (wr.cell? ⟨H + 1, 0, none⟩ = some (.int .u16 A) ∧ wr.cell? ⟨H + 1, 1, none⟩ = some (.int .u16 B')) ∧ wr.cell? ⟨H + 1 + 1, 0, none⟩ = some (.int .u16 C) ∧ wr.cell? ⟨H + 1 + 1, 1, none⟩ = some (.int .u16 D) :=
  ⟨⟨h.cell 3 rfl 0 rfl, h.cell 3 rfl 1 rfl⟩, ⟨h.cell 2 rfl 0 rfl, h.cell 2 rfl 1 rfl⟩, h.cell 1 rfl 0 rfl, h.cell 1 rfl 1 rfl⟩
theorem UL.free {w wr : World} {H : Nat} {v : Value} {m : List (Nat × Nat)} {A B' C D x l : Int} (h : SS w [] wr (UL H v m A B' C D x l)) :
    (wr.frozen? ⟨H, 0, none⟩ = false ∧ wr.frozen? ⟨H, 1, none⟩ = false) ∧ (wr.frozen? ⟨H + 1, 0, none⟩ = false ∧ wr.frozen? ⟨H + 1, 1, none⟩ = false) ∧ wr.frozen? ⟨H + 1 + 1, 0, none⟩ = false ∧ wr.frozen? ⟨H + 1 + 1, 1, none⟩ = false :=
  ⟨⟨h.free 3 rfl 0, h.free 3 rfl 1⟩, ⟨h.free 2 rfl 0, h.free 2 rfl 1⟩, h.free 1 rfl 0, h.free 1 rfl 1⟩
/-- An interval joins the intervals found so far. -/
theorem UL.push {w wr : World} {H : Nat} {v : Value} {m : List (Nat × Nat)} {A B' C D x l : Int} {r : Nat × Nat} (h : SS w [] wr ([] ++ O 2 114 v (m.length + 1) (ivs m ++ [.int .u16 (r.1 : Int), .int .u16 ((r.2 - r.1 : Nat) : Int)]) :: [B (H + 1 + 1) 114 [.int .u16 C, .int .u16 D], B (H + 1) 114 [.int .u16 A, .int .u16 B'], B H 114 [.int .u16 x, .int .u16 l]])) :
    SS w [] wr (UL H v (m ++ [r]) A B' C D x l) := by
  unfold UL
  rw [show (m ++ [r]).length = m.length + 1 by simp, show ivs (m ++ [r]) = ivs m ++ [.int .u16 (r.1 : Int), .int .u16 ((r.2 - r.1 : Nat) : Int)] by simp [ivs]]
  exact h
theorem ivs_one (l : List (Nat × Nat)) : ∀ u ∈ ivs l, u.oneCell' = true := by
  intro u hu
  obtain ⟨r, _, hu⟩ := List.mem_flatMap.1 hu
  simp at hu
  rcases hu with rfl | rfl <;> rfl
theorem ivs_get : ∀ (l : List (Nat × Nat)) (j : Nat) (u : Value), (ivs l)[j]? = some u → ∃ (i : Nat) (r : Nat × Nat), l[i]? = some r ∧ ((j = i * 2 ∧ u = .int .u16 (r.1 : Int)) ∨ (j = i * 2 + 1 ∧ u = .int .u16 ((r.2 - r.1 : Nat) : Int)))
  | [], j, u, h => by simp [ivs] at h
  | x :: l, 0, u, h => by
    rw [ivs_cons] at h
    simp at h
    exact ⟨0, x, rfl, .inl ⟨rfl, h.symm⟩⟩
  | x :: l, 1, u, h => by
    rw [ivs_cons] at h
    simp at h
    exact ⟨0, x, rfl, .inr ⟨rfl, h.symm⟩⟩
  | x :: l, j + 2, u, h => by
    rw [ivs_cons] at h
    simp at h
    obtain ⟨i, r, h1, h2⟩ := ivs_get l j u h
    refine ⟨i + 1, r, h1, ?_⟩
    rcases h2 with ⟨e, hu⟩ | ⟨e, hu⟩
    · exact .inl ⟨by omega, hu⟩
    · exact .inr ⟨by omega, hu⟩
/-- The cells of the intervals from place k on, where they lie. -/
theorem ivs_src {w : World} {rs : List (Nat × Nat)} {g c k : Nat} (hk : k < rs.length) (hc : rs.length ≤ c)
    (h : ∀ (i : Nat) (r : Nat × Nat), rs[i]? = some r → w.cell? ⟨g, i * 2, none⟩ = some (.int .u16 (r.1 : Int)) ∧ w.cell? ⟨g, i * 2 + 1, none⟩ = some (.int .u16 ((r.2 - r.1 : Nat) : Int))) :
    ∀ (j : Nat) (u : Value), (ivs (rs.drop k))[j]? = some u → w.cell? ((tlA g 0 k c 2).add j) = some u := by
  intro j u hj
  rw [tlA_of (by omega), Nat.zero_add]
  have e : (⟨g, k * 2, none⟩ : Addr).add j = ⟨g, k * 2 + j, none⟩ := by unfold Addr.add; split <;> simp_all
  rw [e]
  obtain ⟨i, r, h1, h2⟩ := ivs_get _ j u hj
  rw [List.getElem?_drop] at h1
  obtain ⟨e1, e2⟩ := h (k + i) r h1
  rcases h2 with ⟨rfl, rfl⟩ | ⟨rfl, rfl⟩
  · rw [show k * 2 + i * 2 = (k + i) * 2 by omega]; exact e1
  · rw [show k * 2 + (i * 2 + 1) = (k + i) * 2 + 1 by omega]; exact e2
theorem take_at {l : List (Nat × Nat)} {k : Nat} {r : Nat × Nat} (h : l[k]? = some r) : l.take (k + 1) = l.take k ++ [r] := by
  rw [List.take_add_one, h]; rfl
theorem UL.pushes {w wr : World} {H n : Nat} {v : Value} {m l : List (Nat × Nat)} {A B' C D x l' : Int} (hn : n = l.length) (h : SS w [] wr ([] ++ O 2 114 v (m.length + n) (ivs m ++ ivs l) :: [B (H + 1 + 1) 114 [.int .u16 C, .int .u16 D], B (H + 1) 114 [.int .u16 A, .int .u16 B'], B H 114 [.int .u16 x, .int .u16 l']])) :
    SS w [] wr (UL H v (m ++ l) A B' C D x l') := by
  subst hn
  unfold UL
  rw [show (m ++ l).length = m.length + l.length by simp, show ivs (m ++ l) = ivs m ++ ivs l by simp [ivs]]
  exact h
theorem UL.shape {w wr : World} {H : Nat} {v : Value} {m : List (Nat × Nat)} {A B' C D x l : Int} (h : SS w [] wr (UL H v m A B' C D x l)) (hm : 0 < m.length) : ∃ g c N, v = .slice (some ⟨g, 0, none⟩) N c := by
  obtain ⟨g, c, h1, _, _⟩ := Own.shape (h.get (A := O 2 114 v m.length (ivs m)) (by simp [UL])) hm
  exact ⟨g, c, _, h1⟩
theorem UL.fin {w wr : World} {H : Nat} {v : Value} {m : List (Nat × Nat)} {A B' C D x l : Int} (h : SS w [] wr (UL H v m A B' C D x l)) : SS w [] (wr.alloc (.cells #[v] 112)) (RC wr.heap.size v m) :=
  SS.new (SS.left (L := [O 2 114 v m.length (ivs m)]) h) 112 [v]
end Go.Roar
namespace Go.Proofs
open Go.RowKit Go.Roar

theorem infoIv : (Tryz.prog.info? 114).map (fun i => (i.zero, i.size, i.bytes)) = some (some (.agg #[.int .u16 0, .int .u16 0]), 2, 4) := by kernel_rfl
theorem szIv : (Tryz.prog.info? 114).map (·.size) = some 2 := by kernel_rfl
theorem undIvs : Tryz.prog.underlying 110 = some (.slice 114) := by kernel_rfl
theorem indexAfter_int (p : Nat) (rs : List (Nat × Nat)) (key start : Nat) (K T : Int) (w : World) (hK : K = key) (hT : T = start) (hR : RCV w p rs) (hr : RgOK 65536 rs) (h0 : 0 < rs.length) (hk : key ≤ 65536) (hs : start ≤ rs.length) (hl : rs.length ≤ 65536)
    (hprev : ∀ r : Nat × Nat, 0 < start → rs[start - 1]? = some r → r.2 < key) :
    Calls Tryz.prog 232 #[.pointer (some ⟨p, 0, none⟩), .int .i64 K, .int .i64 T] w fun ed w' => ∃ j : Nat, ed = .returned (.int .i64 (j : Int)) ∧ Spot16 rs start key j ∧ Mild w w' := by
  subst hK hT; exact indexAfter_any p rs key start w hR hr h0 hk hs hl hprev
theorem canMerge_r (r q : Nat × Nat) (b : Bool) (w : World) (hr : r.1 ≤ r.2 ∧ r.2 < 65536) (hq : q.1 ≤ q.2 ∧ q.2 < 65536) (hb : b = decide (q.1 ≤ r.2 + 1 ∧ r.1 ≤ q.2 + 1)) :
    Calls Tryz.prog 230 #[.agg #[.int .u16 (r.1 : Int), .int .u16 ((r.2 - r.1 : Nat) : Int)], .agg #[.int .u16 (q.1 : Int), .int .u16 ((q.2 - q.1 : Nat) : Int)]] w fun ed w' => ed = .returned (.bool b) ∧ Mild w w' := by
  have := canMerge_any r.1 (r.2 - r.1) q.1 (q.2 - q.1) w (by omega) (by omega)
  rwa [show r.1 + (r.2 - r.1) + 1 = r.2 + 1 by omega, show q.1 + (q.2 - q.1) + 1 = q.2 + 1 by omega, ← hb] at this
theorem merge_r (r q : Nat × Nat) (w : World) (hr : r.1 ≤ r.2 ∧ r.2 < 65536) (hq : q.1 ≤ q.2 ∧ q.2 < 65536) (h : q.1 ≤ r.2 + 1 ∧ r.1 ≤ q.2 + 1) :
    Calls Tryz.prog 231 #[.agg #[.int .u16 (r.1 : Int), .int .u16 ((r.2 - r.1 : Nat) : Int)], .agg #[.int .u16 (q.1 : Int), .int .u16 ((q.2 - q.1 : Nat) : Int)]] w fun ed w' => ed = .returned (.agg #[.int .u16 ((Nat.min r.1 q.1 : Nat) : Int), .int .u16 ((Nat.max r.2 q.2 - Nat.min r.1 q.1 : Nat) : Int)]) ∧ Mild w w' := by
  have := merge_any r.1 (r.2 - r.1) q.1 (q.2 - q.1) w (by omega) (by omega) (by omega)
  rwa [show r.1 + (r.2 - r.1) = r.2 by omega, show q.1 + (q.2 - q.1) = q.2 by omega] at this

set_option maxRecDepth 100000 in
set_option maxHeartbeats 4000000 in
theorem union_any (p q : Nat) (rs : List (Nat × Nat)) (s t : Nat) (w : World) (hR : RCV w p rs) (hQ : RCV w q [(s, t)]) (hr : RgOK 65536 rs) (h0 : 0 < rs.length) (hl : rs.length ≤ 32768) (hst : s ≤ t) (ht : t < 65536) :
    Calls Tryz.prog 225 #[.pointer (some ⟨p, 0, none⟩), .pointer (some ⟨q, 0, none⟩)] w fun ed w' => ∃ z v m, ed = .returned (.pointer (some ⟨z, 0, none⟩)) ∧ UnionR rs s t m ∧ SS w [] w' (RC z v m) := by
  obtain ⟨iU, v1, v2, v3, v4⟩ := info_parts infoIv
  have HR := Lib.hid hR
  have HQ := Lib.hid hQ
  have Hr := Lib.hid hr
  obtain ⟨gp, cp, hcpl, cp0, hcp⟩ := hR
  obtain ⟨gq, cq, hcql, cq0, hcq⟩ := hQ
  have Hcp := Lib.hid hcp
  have Hcq := Lib.hid hcq
  clear hr hcp hcq
  have S0 : SS w [] (((w.alloc (.cells #[.int .u16 (0 : Int), .int .u16 (0 : Int)] 114)).alloc (.cells #[.int .u16 (0 : Int), .int .u16 (0 : Int)] 114)).alloc (.cells #[.int .u16 (0 : Int), .int .u16 (0 : Int)] 114)) (UL w.heap.size (.slice none 0 0) [] 0 0 0 0 0 0) := by
    have := (((SS.nothing w).new 114 [.int .u16 (0 : Int), .int .u16 (0 : Int)]).new 114 [.int .u16 (0 : Int), .int .u16 (0 : Int)]).new 114 [.int .u16 (0 : Int), .int .u16 (0 : Int)]
    simp only [World.size_alloc] at this
    exact this.join (SS.bare _ 2 114)
  have M0 := Melt.start (a := rs) (s := s) (t := t) (k := 0) (Nat.zero_le _) ht (fun i r hi => by omega)
  have HS0 := Lib.hid S0
  have HM0 := Lib.hid M0
  clear S0 M0
  generalize hn : rs.length = n at *
  have Hn := Lib.hid hn
  clear hn
  go_enter Tryz.func225, Tryz.ntmps225
  go_wp2
  generalize hH : w.heap.size = H at *
  have HH := Lib.hid hH
  clear hH
  go_loopw [8, 9, 11, 5, 14] (fun na nb us v ps wr => (∃ Z : Int, ps = .int .i64 Z) ∧ Hid (UState w wr H rs s t v na nb us)) (fun na nb _ _ _ _ => (n - (intOf na).toNat) + (1 - (intOf nb).toNat))
  case atStart => exact ⟨⟨0, rfl⟩, Lib.hid ⟨0, 0, 0, 0, 0, 0, 0, 0, rfl, Nat.le_refl _, Nat.zero_le _, .inl ⟨rfl, rfl, rfl, HM0.out, HS0.out⟩⟩⟩
  case round =>
    obtain ⟨⟨Z, rfl⟩, hrel⟩ := hrel
    obtain ⟨k, j, A, B', C, D, x, l, rfl, hkj, hjn, ⟨rfl, rfl, rfl, hM, hS⟩ | ⟨rfl, rfl, rfl, hM, hf, hS⟩ | ⟨X, Y, rfl, rfl, hM, hf, hS⟩⟩ := hrel.out
    · clear hrel HM0 HS0
      have HS := Lib.hid hS
      have HM := Lib.hid hM
      rw [Hn.out] at hjn
      by_cases hlt : k < n
      · obtain ⟨r, hx⟩ : ∃ r, rs[k]? = some r := ⟨_, List.getElem?_eq_getElem (by rw [Hn.out]; omega)⟩
        have km := hS.mild
        have b0 := km.cell2 id cq0
        have b1 := km.cell2 id (Hcq.out 0 (s, t) rfl).1
        have b2 := km.cell2 id (Hcq.out 0 (s, t) rfl).2
        have a0 := km.cell2 id cp0
        have a1 := km.cell2 id (Hcp.out k r hx).1
        have a2 := km.cell2 id (Hcp.out k r hx).2
        simp only [Nat.zero_mul, Nat.zero_add] at b1 b2
        have hr1 := Hr.out.1 r (List.mem_of_getElem? hx)
        have CM := Lib.hid (fun (b : Bool) (W : World) (hb : b = decide (s ≤ r.2 + 1 ∧ r.1 ≤ t + 1)) => canMerge_r r (s, t) b W hr1 ⟨hst, ht⟩ hb)
        have MM := Lib.hid (fun (W : World) (h : s ≤ r.2 + 1 ∧ r.1 ≤ t + 1) => merge_r r (s, t) W hr1 ⟨hst, ht⟩ h)
        have Hx := Lib.hid hx
        clear hS hM km hx
        obtain ⟨-, ⟨c1, c2⟩, -⟩ := UL.cells HS.out
        obtain ⟨-, ⟨f1, f2⟩, -⟩ := UL.free HS.out
        go_upto_region 14 with fail
        have S1 := Lib.hid (UL.setA HS.out (r.1 : Int) ((r.2 - r.1 : Nat) : Int))
        clear b0 b1 b2 a0 a1 a2 c1 c2 f1 f2
        generalize ((wr.setCell ⟨H + 1, 0, none⟩ (.int .u16 (r.1 : Int))).setCell ⟨H + 1, 1, none⟩ (.int .u16 ((r.2 - r.1 : Nat) : Int))) = w1 at *
        have km := S1.out.mild
        have b0 := km.cell2 id cq0
        have b1 := km.cell2 id (Hcq.out 0 (s, t) rfl).1
        have b2 := km.cell2 id (Hcq.out 0 (s, t) rfl).2
        simp only [Nat.zero_mul, Nat.zero_add] at b1 b2
        obtain ⟨-, -, c1, c2⟩ := UL.cells S1.out
        obtain ⟨-, -, f1, f2⟩ := UL.free S1.out
        go_upto_region 15 with fail
        have S2 := Lib.hid (UL.setC S1.out (s : Int) ((t - s : Nat) : Int))
        clear b0 b1 b2 c1 c2 f1 f2 km S1
        generalize ((w1.setCell ⟨H + 1 + 1, 0, none⟩ (.int .u16 (s : Int))).setCell ⟨H + 1 + 1, 1, none⟩ (.int .u16 ((t - s : Nat) : Int))) = w2 at *
        clear HS
        obtain ⟨-, ⟨a1, a2⟩, b1, b2⟩ := UL.cells S2.out
        go_upto_region 28 with fail
        by_cases hm : s ≤ r.2 + 1 ∧ r.1 ≤ t + 1
        · obtain ⟨X, hX⟩ : ∃ X, X = Nat.min r.1 s := ⟨_, rfl⟩
          obtain ⟨Y, hY⟩ : ∃ Y, Y = Nat.max r.2 t := ⟨_, rfl⟩
          have m1 : X ≤ s := by rw [hX]; exact Nat.min_le_right _ _
          have m2 : t ≤ Y := by rw [hY]; exact Nat.le_max_right _ _
          have m3 : Y < 65536 := by rw [hY]; exact Nat.max_lt.2 ⟨hr1.2, ht⟩
          have m4 : r.2 ≤ Y := by rw [hY]; exact Nat.le_max_left _ _
          have MM2 := Lib.hid (fun (W : World) => MM.out W hm)
          simp only at MM2
          rw [← hX, ← hY] at MM2
          have LX := Lib.hid (fun (W : World) => last_r (X, Y) W ⟨show X ≤ Y by omega, m3⟩)
          simp only at LX
          have IA := Lib.hid (fun (K T : Int) (W : World) (hK : K = ((Y + 1 : Nat) : Int)) (hT : T = ((k + 1 : Nat) : Int)) (km : Mild w W) => indexAfter_int p rs (Y + 1) (k + 1) K T W hK hT (HR.out.mild km) Hr.out (by rw [Hn.out]; exact h0) (by omega) (by rw [Hn.out]; omega) (by rw [Hn.out]; omega) (fun q _ hq => by rw [show k + 1 - 1 = k by omega, Hx.out] at hq; simp at hq; subst hq; omega))
          have IB := Lib.hid (fun (K T : Int) (W : World) (hK : K = ((Y + 1 : Nat) : Int)) (hT : T = ((0 + 1 : Nat) : Int)) (km : Mild w W) => indexAfter_int q [(s, t)] (Y + 1) (0 + 1) K T W hK hT (HQ.out.mild km) ⟨by simp; omega, by simp⟩ (by simp) (by omega) (by simp) (by simp) (fun q _ hq => by simp at hq; subst hq; show t < Y + 1; omega))
          have HX := Lib.hid hX
          have HY := Lib.hid hY
          clear CM MM hX hY
          go_upto_region 34 with (first
              | (go_at_call 230; (with_reducible refine (canMerge_r r (s, t) true _ hr1 ⟨hst, ht⟩ (decide_eq_true hm).symm).mono ?_); rintro ed w3 ⟨rfl, k3⟩; have S3 := Lib.hid (S2.out.quiet k3); clear a1 a2 b1 b2; obtain ⟨-, ⟨a1, a2⟩, b1, b2⟩ := UL.cells S3.out)
              | fail)
          go_upto_region 35 with (first
              | (go_at_call 231; (with_reducible refine (MM2.out _).mono ?_); rintro ed w4 ⟨rfl, k4⟩; have S4 := Lib.hid (S3.out.quiet k4); clear a1 a2 b1 b2; obtain ⟨⟨x1, x2⟩, -, -⟩ := UL.cells S4.out; obtain ⟨⟨f1, f2⟩, -, -⟩ := UL.free S4.out)
              | fail)
          have S5 := Lib.hid (UL.setX S4.out (X : Int) ((Y - X : Nat) : Int))
          clear x1 x2 f1 f2 S2 S3 
          generalize ((w4.setCell ⟨H, 0, none⟩ (.int .u16 (X : Int))).setCell ⟨H, 1, none⟩ (.int .u16 ((Y - X : Nat) : Int))) = w5 at *
          obtain ⟨⟨x1, x2⟩, -, -⟩ := UL.cells S5.out
          go_upto_region 37 with (first
              | (go_at_call 68; (with_reducible refine (LX.out _).mono ?_); rintro ed w6 ⟨rfl, k6⟩; clear x1 x2; have S6 := Lib.hid (S5.out.quiet k6))
              | (go_at_call 232; (with_reducible refine (IA.out _ _ _ (by omega) (by omega) (S5.out.mild.trans k6)).mono ?_); rintro ed w7 ⟨j7, rfl, hsp7, k7⟩; have S7 := Lib.hid (S6.out.quiet k7))
              | fail)
          obtain ⟨⟨x1, x2⟩, -, -⟩ := UL.cells S7.out
          go_wp2_with (first
              | (go_at_call 68; (with_reducible refine (LX.out _).mono ?_); rintro ed w8 ⟨rfl, k8⟩; clear x1 x2; have S8 := Lib.hid (S7.out.quiet k8))
              | (go_at_call 232; (with_reducible refine (IB.out _ _ _ (by omega) (by omega) (S7.out.mild.trans k8)).mono ?_); rintro ed w9 ⟨j9, rfl, hsp9, k9⟩; have S9 := Lib.hid (S8.out.quiet k9))
              | fail)
          go_roundw
          case rel =>
            have e9 : j9 = 1 := by have h1 := hsp9.1; have h2 := hsp9.2.1; simp at h2; omega
            subst e9
            have hM2 := Melt.more Hr.out HM.out Hx.out hm (by rw [← HY.out]; exact hsp7)
            rw [← HX.out, ← HY.out] at hM2
            exact ⟨⟨_, rfl⟩, Lib.hid ⟨k, j7, _, _, _, _, 0, 0, rfl, hM2.kj, hM2.jn, .inr (.inr ⟨X, Y, rfl, rfl, hM2, hsp7.2.2.2, S9.out⟩)⟩⟩
          case measure => have h1 := hsp7.1; have h2 := hsp9.1; simp only [intOf]; omega
        · by_cases hlt2 : r.1 < s
          · go_upto_region 30 with (first
              | (go_at_call 230; (with_reducible refine (CM.out false _ (decide_eq_false hm).symm).mono ?_); rintro ed w3 ⟨rfl, k3⟩; have S3 := Lib.hid (S2.out.quiet k3); clear a1 a2 b1 b2 S2; obtain ⟨-, ⟨a1, a2⟩, b1, b2⟩ := UL.cells S3.out)
              | fail)
            go_wp2_with (first
              | (at_builtin; refine wpList_append_ss rfl (.tmp 97) (.tmp 99) 110 rfl 114 iU (.agg #[.int .u16 (0 : Int), .int .u16 (0 : Int)]) 2 4 undIvs v1 v2 v3 v4 rfl (by decide) w [] [] _ _ _ _ rfl (SS.alloc S3.out _) ⟨w3.heap.size, 0, none⟩ 1 1 [.int .u16 (r.1 : Int), .int .u16 ((r.2 - r.1 : Nat) : Int)] rfl rfl (Blk.news (Blk.new _ _ _)) (by simp [Value.oneCell']) (by unfold maxLen; simp; omega) (by simp; omega) ?_; intro va wa Sa; have SP := Lib.hid (UL.push (r := r) Sa); clear Sa)
              | fail)
            go_roundw
            case rel =>
              refine ⟨⟨_, rfl⟩, Lib.hid ⟨k + 1, k + 1, _, _, _, _, _, _, rfl, Nat.le_refl _, by rw [Hn.out]; omega, .inl ⟨rfl, rfl, rfl, Melt.start (by rw [Hn.out]; omega) ht (fun i q hi hq => ?_), by rw [take_at Hx.out]; exact SP.out⟩⟩⟩
              rcases Nat.eq_or_lt_of_le (Nat.le_of_lt_succ hi) with rfl | hi
              · rw [Hx.out] at hq; simp at hq; subst hq; omega
              · exact HM.out.lo i q hi hq
            case measure => simp only [intOf]; omega
          · go_upto_region 32 with (first
              | (go_at_call 230; (with_reducible refine (CM.out false _ (decide_eq_false hm).symm).mono ?_); rintro ed w3 ⟨rfl, k3⟩; have S3 := Lib.hid (S2.out.quiet k3); clear a1 a2 b1 b2 S2; obtain ⟨-, ⟨a1, a2⟩, b1, b2⟩ := UL.cells S3.out)
              | fail)
            go_wp2_with (first
              | (at_builtin; refine wpList_append_ss rfl (.tmp 103) (.tmp 105) 110 rfl 114 iU (.agg #[.int .u16 (0 : Int), .int .u16 (0 : Int)]) 2 4 undIvs v1 v2 v3 v4 rfl (by decide) w [] [] _ _ _ _ rfl (SS.alloc S3.out _) ⟨w3.heap.size, 0, none⟩ 1 1 [.int .u16 (s : Int), .int .u16 ((t - s : Nat) : Int)] rfl rfl (Blk.news (Blk.new _ _ _)) (by simp [Value.oneCell']) (by unfold maxLen; simp; omega) (by simp; omega) ?_; intro va wa Sa; have SP := Lib.hid (UL.push (r := (s, t)) Sa); clear Sa)
              | fail)
            go_roundw
            case rel =>
              refine ⟨⟨_, rfl⟩, Lib.hid ⟨k, k, _, _, _, _, _, _, rfl, Nat.le_refl _, by rw [Hn.out]; omega, .inr (.inl ⟨rfl, rfl, rfl, HM.out, fun q hq => ?_, SP.out⟩)⟩⟩
              rw [Hx.out] at hq; simp at hq; subst hq; omega
            case measure => simp only [intOf]; omega
      · obtain rfl : k = n := by omega
        have km := HS.out.mild
        have b0 := km.cell2 id cq0
        have s1 := fun (W : World) => run_slice_from (P := Tryz.prog) W undIvs szIv gq 0 1 cq 0 .i64 (0 : Int) rfl (by omega)
        have CQ := Lib.hid (ivs_src (w := wr) (rs := [(s, t)]) (g := gq) (c := cq) (k := 0) (by simp) hcql (fun i r hi => ⟨km.cell2 id (Hcq.out i r hi).1, km.cell2 id (Hcq.out i r hi).2⟩))
        clear hS hM km
        go_wp2_with (first
            | (at_builtin; refine wpList_append_ss rfl (.tmp 205) (.tmp 211) 110 rfl 114 iU (.agg #[.int .u16 (0 : Int), .int .u16 (0 : Int)]) 2 4 undIvs v1 v2 v3 v4 rfl (by decide) w [] [] _ _ _ _ rfl HS.out (tlA gq 0 0 cq 2) (1 - 0) (cq - 0) (ivs (([(s, t)] : List (Nat × Nat)).drop 0)) rfl (by simp) CQ.out (ivs_one _) (by unfold maxLen; simp; omega) (by simp; omega) ?_; intro vb wb Sb; have SQ := Lib.hid (UL.pushes (l := (([(s, t)] : List (Nat × Nat)).drop 0)) rfl Sb); clear Sb; obtain ⟨gz, cz, N, rfl⟩ := UL.shape SQ.out (by simp))
            | fail)
        go_ret
        have hU := Melt.union Hr.out HM.out hst (fun r hr => by rw [List.getElem?_eq_none (by rw [Hn.out]; omega)] at hr; cases hr)
        refine ⟨wb.heap.size, .slice (some ⟨gz, 0, none⟩) N cz, _, rfl, hU, ?_⟩
        rw [List.drop_eq_nil_of_le (by rw [Hn.out]; omega)]
        exact UL.fin SQ.out
    · clear hrel HM0 HS0
      have HS := Lib.hid hS
      have HM := Lib.hid hM
      have Hf := Lib.hid hf
      rw [Hn.out] at hjn
      have km := hS.mild
      have a0 := km.cell2 id cp0
      have CP := Lib.hid (fun (hk : k < rs.length) => ivs_src (w := wr) (rs := rs) (g := gp) (c := cp) (k := k) hk (by rw [Hn.out]; exact hcpl) (fun i r hi => ⟨km.cell2 id (Hcp.out i r hi).1, km.cell2 id (Hcp.out i r hi).2⟩))
      have hU := Melt.union Hr.out hM hst hf
      have HU := Lib.hid hU
      clear hS hM hf hU km
      by_cases hlt : k < n
      · have s1 := fun (W : World) => run_slice_from (P := Tryz.prog) W undIvs szIv gp 0 n cp k .i64 (k : Int) rfl (by omega)
        go_wp2_with (first
            | (at_builtin; refine wpList_append_ss rfl (.tmp 194) (.tmp 200) 110 rfl 114 iU (.agg #[.int .u16 (0 : Int), .int .u16 (0 : Int)]) 2 4 undIvs v1 v2 v3 v4 rfl (by decide) w [] [] _ _ _ _ rfl HS.out (tlA gp 0 k cp 2) (n - k) (cp - k) (ivs (rs.drop k)) rfl (by simp [Hn.out]) (CP.out (by rw [Hn.out]; exact hlt)) (ivs_one _) (by unfold maxLen; simp; omega) (by simp; omega) ?_; intro vb wb Sb; have SQ := Lib.hid (UL.pushes (l := (rs.drop k)) (by simp [Hn.out]) Sb); clear Sb; obtain ⟨gz, cz, N, rfl⟩ := UL.shape SQ.out (by simp; omega))
            | fail)
        go_ret
        refine ⟨wb.heap.size, .slice (some ⟨gz, 0, none⟩) N cz, _, rfl, HU.out, ?_⟩
        rw [show rs.take k ++ (s, t) :: rs.drop k = rs.take k ++ [(s, t)] ++ rs.drop k by simp]
        exact UL.fin SQ.out
      · obtain rfl : k = n := by omega
        obtain ⟨gz, cz, N, rfl⟩ := UL.shape HS.out (by simp)
        go_wp2
        go_ret
        refine ⟨wr.heap.size, .slice (some ⟨gz, 0, none⟩) N cz, _, rfl, HU.out, ?_⟩
        rw [List.drop_eq_nil_of_le (by rw [Hn.out]; omega)]
        exact UL.fin HS.out
    · clear hrel HM0 HS0
      have HS := Lib.hid hS
      have HM := Lib.hid hM
      have Hf := Lib.hid hf
      rw [Hn.out] at hjn
      have hXY : X ≤ Y := Nat.le_trans hM.xs (Nat.le_trans hst hM.ty)
      have hY := hM.yb
      clear hS hM hf
      by_cases hlt : j < n
      · have HN0 := Lib.hid (show UNext w wr H rs s t u5 k j from ⟨X, Y, _, _, _, _, HM.out, Hf.out, HS.out⟩)
        have hT : min k rs.length + 1 ≤ 32768 := by rw [Hn.out]; omega
        clear HS HM Hf hXY hY hkj
        have i4 : decide (n ≤ j) = false := by simp; omega
        have i5 : decide ((n : Int) ≤ (j : Int)) = false := by simp; omega
        go_wp2
        go_step3
        go_wp2
        go_step3
        go_wp2
        clear X Y
        go_loopw [8] (fun na wx => ∃ i : Nat, na = .int .i64 (i : Int) ∧ i ≤ n ∧ Hid (UNext w wx H rs s t u5 k i)) (fun na _ => n - (intOf na).toNat)
        case atStart => exact ⟨j, rfl, hjn, HN0⟩
        case round =>
          obtain ⟨i, rfl, hin, HN⟩ := hrel
          obtain ⟨X, Y, A, B', C, D, hM, hf, hS⟩ := HN.out
          have HS := Lib.hid hS
          have HM := Lib.hid hM
          have hXY : X ≤ Y := Nat.le_trans hM.xs (Nat.le_trans hst hM.ty)
          have hYb := hM.yb
          clear HN0 HN hlt hjn i4 i5
          by_cases hlt : i < n
          · obtain ⟨r, hx⟩ : ∃ r, rs[i]? = some r := ⟨_, List.getElem?_eq_getElem (by rw [Hn.out]; omega)⟩
            have hfr := hf r hx
            have km := hS.mild
            have a0 := km.cell2 id cp0
            have a1 := km.cell2 id (Hcp.out i r hx).1
            have a2 := km.cell2 id (Hcp.out i r hx).2
            have hr1 := Hr.out.1 r (List.mem_of_getElem? hx)
            have CM := Lib.hid (fun (b : Bool) (W : World) (hb : b = decide (X ≤ r.2 + 1 ∧ r.1 ≤ Y + 1)) => canMerge_r r (X, Y) b W hr1 ⟨hXY, hYb⟩ hb)
            have MM := Lib.hid (fun (W : World) (h : X ≤ r.2 + 1 ∧ r.1 ≤ Y + 1) => merge_r r (X, Y) W hr1 ⟨hXY, hYb⟩ h)
            have Hx := Lib.hid hx
            clear hS hM km hx hf
            obtain ⟨-, ⟨c1, c2⟩, -⟩ := UL.cells HS.out
            obtain ⟨-, ⟨f1, f2⟩, -⟩ := UL.free HS.out
            go_upto_region 47 with fail
            have S2 := Lib.hid (UL.setA HS.out (r.1 : Int) ((r.2 - r.1 : Nat) : Int))
            clear a0 a1 a2 c1 c2 f1 f2
            generalize ((wr.setCell ⟨H + 1, 0, none⟩ (.int .u16 (r.1 : Int))).setCell ⟨H + 1, 1, none⟩ (.int .u16 ((r.2 - r.1 : Nat) : Int))) = w2 at *
            clear HS
            obtain ⟨⟨x1, x2⟩, ⟨a1, a2⟩, -⟩ := UL.cells S2.out
            by_cases hm : X ≤ r.2 + 1 ∧ r.1 ≤ Y + 1
            · obtain ⟨X', hX⟩ : ∃ z, z = Nat.min r.1 X := ⟨_, rfl⟩
              obtain ⟨Y', hY⟩ : ∃ z, z = Nat.max r.2 Y := ⟨_, rfl⟩
              have m1 : X' ≤ X := by rw [hX]; exact Nat.min_le_right _ _
              have m2 : Y ≤ Y' := by rw [hY]; exact Nat.le_max_right _ _
              have m3 : Y' < 65536 := by rw [hY]; exact Nat.max_lt.2 ⟨hr1.2, hYb⟩
              have m4 : r.2 ≤ Y' := by rw [hY]; exact Nat.le_max_left _ _
              have MM2 := Lib.hid (fun (W : World) => MM.out W hm)
              simp only at MM2
              rw [← hX, ← hY] at MM2
              have LX := Lib.hid (fun (W : World) => last_r (X', Y') W ⟨show X' ≤ Y' by omega, m3⟩)
              simp only at LX
              have IA := Lib.hid (fun (K T : Int) (W : World) (hK : K = ((Y' + 1 : Nat) : Int)) (hT : T = ((i + 1 : Nat) : Int)) (km : Mild w W) => indexAfter_int p rs (Y' + 1) (i + 1) K T W hK hT (HR.out.mild km) Hr.out (by rw [Hn.out]; exact h0) (by omega) (by rw [Hn.out]; omega) (by rw [Hn.out]; omega) (fun q _ hq => by rw [show i + 1 - 1 = i by omega, Hx.out] at hq; simp at hq; subst hq; omega))
              have HX := Lib.hid hX
              have HY := Lib.hid hY
              clear MM hX hY
              go_upto_region 48 with (first
                | (go_at_call 230; (with_reducible refine (CM.out true _ (decide_eq_true hm).symm).mono ?_); rintro ed w3 ⟨rfl, k3⟩; have S3 := Lib.hid (S2.out.quiet k3); clear a1 a2 x1 x2; obtain ⟨⟨x1, x2⟩, ⟨a1, a2⟩, -⟩ := UL.cells S3.out)
                | fail)
              go_upto_region 49 with (first
                | (go_at_call 231; (with_reducible refine (MM2.out _).mono ?_); rintro ed w4 ⟨rfl, k4⟩; have S4 := Lib.hid (S3.out.quiet k4); clear a1 a2 x1 x2; obtain ⟨⟨x1, x2⟩, -, -⟩ := UL.cells S4.out; obtain ⟨⟨f1, f2⟩, -, -⟩ := UL.free S4.out)
                | fail)
              have S5 := Lib.hid (UL.setX S4.out (X' : Int) ((Y' - X' : Nat) : Int))
              clear x1 x2 f1 f2 S2 S3
              generalize ((w4.setCell ⟨H, 0, none⟩ (.int .u16 (X' : Int))).setCell ⟨H, 1, none⟩ (.int .u16 ((Y' - X' : Nat) : Int))) = w5 at *
              obtain ⟨⟨x1, x2⟩, -, -⟩ := UL.cells S5.out
              go_wp2_with (first
                | (go_at_call 68; (with_reducible refine (LX.out _).mono ?_); rintro ed w6 ⟨rfl, k6⟩; clear x1 x2; have S6 := Lib.hid (S5.out.quiet k6))
                | (go_at_call 232; (with_reducible refine (IA.out _ _ _ (by omega) (by omega) (S5.out.mild.trans k6)).mono ?_); rintro ed w7 ⟨j7, rfl, hsp7, k7⟩; have S7 := Lib.hid (S6.out.quiet k7))
                | fail)
              go_roundw
              case rel =>
                have hM2 := Melt.more Hr.out HM.out Hx.out hm (by rw [← HY.out]; exact hsp7)
                rw [← HX.out, ← HY.out] at hM2
                have hj7 : j7 ≤ n := by have := hM2.jn; rw [Hn.out] at this; exact this
                exact ⟨j7, rfl, hj7, Lib.hid ⟨X', Y', _, _, _, _, hM2, hsp7.2.2.2, S7.out⟩⟩
              case measure => have h1 := hsp7.1; have h2 := hsp7.2.1; rw [Hn.out] at h2; show n - ((j7 : Int)).toNat < n - ((i : Int)).toNat; omega
            · have hfar : Y + 1 < r.1 := by omega
              go_upto_region 50 with (first
                | (go_at_call 230; (with_reducible refine (CM.out false _ (decide_eq_false hm).symm).mono ?_); rintro ed w3 ⟨rfl, k3⟩; have S3 := Lib.hid (S2.out.quiet k3); clear a1 a2 x1 x2; obtain ⟨⟨x1, x2⟩, ⟨a1, a2⟩, -⟩ := UL.cells S3.out)
                | fail)
              clear CM MM S2
              have s1 := fun (W : World) => run_slice_from (P := Tryz.prog) W undIvs szIv gp 0 n cp i .i64 (i : Int) rfl (by omega)
              go_wp2_with fail
              rw [Exit.noGoto_normal]
              go_wp2_with (first
                | (at_builtin; refine wpList_append_ss rfl (.tmp 187) (.tmp 189) 110 rfl 114 iU (.agg #[.int .u16 (0 : Int), .int .u16 (0 : Int)]) 2 4 undIvs v1 v2 v3 v4 rfl (by decide) w [] [] _ _ _ _ rfl (SS.alloc S3.out _) ⟨w3.heap.size, 0, none⟩ 1 1 [.int .u16 (X : Int), .int .u16 ((Y - X : Nat) : Int)] rfl rfl (Blk.news (Blk.new _ _ _)) (by simp [Value.oneCell']) (by unfold maxLen; simp; omega) (by simp; omega) ?_; intro va wa Sa; have SP := Lib.hid (UL.push (r := (X, Y)) Sa); clear Sa; have km := SP.out.mild; have a0 := km.cell2 id cp0; have CP := Lib.hid (ivs_src (w := wa) (rs := rs) (g := gp) (c := cp) (k := i) (by rw [Hn.out]; exact hlt) (by rw [Hn.out]; exact hcpl) (fun i r hi => ⟨km.cell2 id (Hcp.out i r hi).1, km.cell2 id (Hcp.out i r hi).2⟩)); clear km x1 x2 a1 a2 S3)
                | (at_builtin; refine wpList_append_ss rfl (.tmp 194) (.tmp 200) 110 rfl 114 iU (.agg #[.int .u16 (0 : Int), .int .u16 (0 : Int)]) 2 4 undIvs v1 v2 v3 v4 rfl (by decide) w [] [] _ _ _ _ rfl SP.out (tlA gp 0 i cp 2) (n - i) (cp - i) (ivs (rs.drop i)) rfl (by simp [Hn.out]) CP.out (ivs_one _) (by unfold maxLen; simp; omega) (by simp; omega) ?_; intro vb wb Sb; have SQ := Lib.hid (UL.pushes (l := (rs.drop i)) (by simp [Hn.out]) Sb); clear Sb; obtain ⟨gz, cz, N, rfl⟩ := UL.shape SQ.out (by simp; omega))
                | fail)
              go_ret
              have hU := Melt.union Hr.out HM.out hst (fun q hq => by rw [Hx.out] at hq; simp at hq; subst hq; exact hfar)
              refine ⟨wb.heap.size, .slice (some ⟨gz, 0, none⟩) N cz, _, rfl, hU, ?_⟩
              rw [show rs.take k ++ (X, Y) :: rs.drop i = rs.take k ++ [(X, Y)] ++ rs.drop i by simp]
              exact UL.fin SQ.out
          · obtain rfl : i = n := by omega
            obtain ⟨⟨x1, x2⟩, -, -⟩ := UL.cells HS.out
            clear hS hM hf
            go_wp2_with fail
            rw [Exit.noGoto_normal]
            go_wp2_with (first
              | (at_builtin; refine wpList_append_ss rfl (.tmp 187) (.tmp 189) 110 rfl 114 iU (.agg #[.int .u16 (0 : Int), .int .u16 (0 : Int)]) 2 4 undIvs v1 v2 v3 v4 rfl (by decide) w [] [] _ _ _ _ rfl (SS.alloc HS.out _) ⟨wr.heap.size, 0, none⟩ 1 1 [.int .u16 (X : Int), .int .u16 ((Y - X : Nat) : Int)] rfl rfl (Blk.news (Blk.new _ _ _)) (by simp [Value.oneCell']) (by unfold maxLen; simp; omega) (by simp; omega) ?_; intro va wa Sa; have SP := Lib.hid (UL.push (r := (X, Y)) Sa); clear Sa; obtain ⟨gz, cz, N, rfl⟩ := UL.shape SP.out (by simp))
              | fail)
            go_ret
            have hU := Melt.union Hr.out HM.out hst (fun r hr => by rw [List.getElem?_eq_none (by rw [Hn.out]; omega)] at hr; cases hr)
            refine ⟨wa.heap.size, .slice (some ⟨gz, 0, none⟩) N cz, _, rfl, hU, ?_⟩
            rw [List.drop_eq_nil_of_le (by rw [Hn.out]; omega)]
            exact UL.fin SP.out
      · obtain rfl : j = n := by omega
        obtain ⟨⟨x1, x2⟩, -, -⟩ := UL.cells HS.out
        go_wp2_with (first
            | (at_builtin; refine wpList_append_ss rfl (.tmp 187) (.tmp 189) 110 rfl 114 iU (.agg #[.int .u16 (0 : Int), .int .u16 (0 : Int)]) 2 4 undIvs v1 v2 v3 v4 rfl (by decide) w [] [] _ _ _ _ rfl (SS.alloc HS.out _) ⟨wr.heap.size, 0, none⟩ 1 1 [.int .u16 (X : Int), .int .u16 ((Y - X : Nat) : Int)] rfl rfl (Blk.news (Blk.new _ _ _)) (by simp [Value.oneCell']) (by unfold maxLen; simp; omega) (by simp; omega) ?_; intro va wa Sa; have SP := Lib.hid (UL.push (r := (X, Y)) Sa); clear Sa; obtain ⟨gz, cz, N, rfl⟩ := UL.shape SP.out (by simp))
            | fail)
        go_ret
        have hU := Melt.union Hr.out HM.out hst (fun r hr => by rw [List.getElem?_eq_none (by rw [Hn.out]; omega)] at hr; cases hr)
        refine ⟨wa.heap.size, .slice (some ⟨gz, 0, none⟩) N cz, _, rfl, hU, ?_⟩
        rw [List.drop_eq_nil_of_le (by rw [Hn.out]; omega)]
        exact UL.fin SP.out
end Go.Proofs
