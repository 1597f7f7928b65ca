/-
  A container as it stands in a set that is made: its numbers, its kind, its parts of memory.
  runContainer16.searchRange, indexOfIntervalAtOrAfter: the first interval that does not end before a number.
  Plain laws: runs that are melted with a range, step by step.
  Small functions: sizes, the least of two numbers, cardinalities.
-/
import Derived.Test.YtjjijipfhnoomaaGreatDoorJNb
import Derived.Test.YtjjijipfhnoomaaGreatDoorJAcNil
import Derived.Test.YtjjijipfhnoomaaGreatDoorJQpl
import Derived.Deep.DeepCutAuto
namespace Go.Roar
open Go.RowKit Go.Proofs

/-- c is a container with the numbers l, of kind k, its parts of memory L. -/
inductive KC : Value → List Nat → Nat → List HA → Prop where
  | arr (p : Nat) (v : Value) (l : List Nat) (hs : Rising l) (hb : ∀ x ∈ l, x < 65536) (h0 : l ≠ []) (hn : l.length ≤ 4096) :
      KC (.iface 82 (.pointer (some ⟨p, 0, none⟩))) l 0 (AC p v l)
  | bmp (p g c : Nat) (ws l : List Nat) (hl : ws.length = 1024) (hb : ∀ x ∈ ws, x < 18446744073709551616) (h0 : 4096 < l.length) (hx : restFrom (bitOf ws) 0 = l) :
      KC (.iface 99 (.pointer (some ⟨p, 0, none⟩))) l 1 (BC p l.length (.slice (some ⟨g, 0, none⟩) 1024 c) ws)
  | run (p : Nat) (v : Value) (rs : List (Nat × Nat)) (l : List Nat) (hr : RgOK 65536 rs) (h0 : rs ≠ []) (hx : rgNums rs = l) :
      KC (.iface 90 (.pointer (some ⟨p, 0, none⟩))) l 2 (RC p v rs)

theorem rest_sorted (f : Nat → Bool) : (restFrom f 0).Pairwise (· < ·) := (List.pairwise_lt_range').filter _
theorem rest_lt (f : Nat → Bool) : ∀ x ∈ restFrom f 0, x < 65536 := by
  intro x hx
  have := (List.mem_filter.1 hx).1
  rw [List.mem_range'_1] at this
  omega
theorem rest_mem (f : Nat → Bool) (x : Nat) : x ∈ restFrom f 0 ↔ x < 65536 ∧ f x = true := by
  unfold restFrom
  simp only [List.mem_filter, List.mem_range'_1]
  constructor
  · rintro ⟨h1, h2⟩; exact ⟨by omega, h2⟩
  · rintro ⟨h1, h2⟩; exact ⟨⟨by omega, by omega⟩, h2⟩
theorem rgNums_ne {rs : List (Nat × Nat)} (h : rs ≠ []) : rgNums rs ≠ [] := by
  cases rs with
  | nil => exact absurd rfl h
  | cons r rs =>
    rw [rgNums_cons]
    intro e
    have := congrArg List.length e
    simp at this
theorem KC.plain {c : Value} {l : List Nat} {k : Nat} {L : List HA} (h : KC c l k L) : Rising l ∧ (∀ x ∈ l, x < 65536) ∧ l ≠ [] := by
  cases h with
  | arr p v _ hs hb h0 hn => exact ⟨hs, hb, h0⟩
  | bmp p g c ws _ hl hb h0 hx => subst hx; exact ⟨rest_sorted _, rest_lt _, fun e => by rw [e] at h0; simp at h0⟩
  | run p v rs _ hr h0 hx => subst hx; exact ⟨rgNums_rising hr, rgNums_lt hr, rgNums_ne h0⟩
theorem KC.one {c : Value} {l : List Nat} {k : Nat} {L : List HA} (h : KC c l k L) : ∃ t v, c = .iface t v ∧ c.oneCell' = true := by
  cases h <;> exact ⟨_, _, rfl, rfl⟩
theorem sorted_count {l : List Nat} (hs : Rising l) (n : Nat) (hb : ∀ x ∈ l, x < n) : l.length ≤ n := by
  have := sorted_sub hs (List.pairwise_lt_range' (s := 0) (n := n)) (fun x hx => by rw [List.mem_range'_1]; have := hb x hx; omega)
  simpa using this

/-- A container as one part of memory: of its make only the blocks are told. -/
def KRepK (w : World) (c : Value) (l : List Nat) (k : Nat) (F : List Nat) : Prop := ∃ L, KC c l k L ∧ Parts w L ∧ foot L = F
def KA (c : Value) (l : List Nat) (k : Nat) (F : List Nat) : HA where
  F := F
  P w := KRepK w c l k F
  loc w w' h hp := by
    obtain ⟨L, h1, h2, rfl⟩ := hp
    exact ⟨L, h1, h2.same h, rfl⟩
  lt w hp b hb := by
    obtain ⟨L, _, h2, rfl⟩ := hp
    exact h2.lt b hb
/-- A container is opened .. -/
theorem SS.openK {w0 w : World} {F0 : List Nat} {c : Value} {l : List Nat} {k : Nat} {F : List Nat} {R : List HA} (h : SS w0 F0 w (KA c l k F :: R)) : ∃ L, KC c l k L ∧ foot L = F ∧ SS w0 F0 w (L ++ R) := by
  obtain ⟨L, h1, h2, h3⟩ : KRepK w c l k F := h.get (A := KA c l k F) (by simp)
  refine ⟨L, h1, h3, ⟨⟨fun A hA => ?_, ?_⟩, fun b hb => h.sub b ?_, h.kept⟩⟩
  · rcases List.mem_append.1 hA with hA | hA
    · exact h2.all A hA
    · exact h.sep.all A (by simp [hA])
  · have := h.sep.nd
    simp only [foot_cons, KA] at this
    rw [foot_append, h3]; exact this
  · simp only [foot_cons, KA]; rw [foot_append, h3] at hb; exact hb
/-- .. and shut. -/
theorem SS.shutK {w0 w : World} {F0 : List Nat} {c : Value} {l : List Nat} {k : Nat} {L R : List HA} (hc : KC c l k L) (h : SS w0 F0 w (L ++ R)) : SS w0 F0 w (KA c l k (foot L) :: R) := by
  refine ⟨⟨fun A hA => ?_, ?_⟩, fun b hb => h.sub b (by simpa [KA] using hb), h.kept⟩
  · rcases List.mem_cons.1 hA with rfl | hA
    · exact ⟨L, hc, h.sep.left, rfl⟩
    · exact h.sep.all A (List.mem_append_right _ hA)
  · have := h.sep.nd
    simpa [KA] using this
/-- What was made of nothing may as well be made of something that goes. -/
theorem SS.wide {w0 w : World} {L : List HA} (F : List Nat) (h : SS w0 [] w L) : SS w0 F w L :=
  ⟨h.sep, fun b hb => .inr (by rcases h.sub b hb with h | h; cases h; exact h), h.kept.mono (fun _ _ hk => by cases hk)⟩
end Go.Roar

namespace Go.Roar
open Go.RowKit Go.Proofs
/-- A run container that reads intervals. -/
def RCV (w : World) (p : Nat) (rs : List (Nat × Nat)) : Prop := ∃ g c, rs.length ≤ c ∧ w.cell? ⟨p, 0, none⟩ = some (.slice (some ⟨g, 0, none⟩) rs.length c) ∧
  ∀ (i : Nat) (r : Nat × Nat), rs[i]? = some r → w.cell? ⟨g, i * 2, none⟩ = some (.int .u16 (r.1 : Int)) ∧ w.cell? ⟨g, i * 2 + 1, none⟩ = some (.int .u16 ((r.2 - r.1 : Nat) : Int))
theorem RCV.mild {w w' : World} {p : Nat} {rs : List (Nat × Nat)} (h : RCV w p rs) (k : Mild w w') : RCV w' p rs := by
  obtain ⟨g, c, hc, h0, h1⟩ := h
  exact ⟨g, c, hc, k.cell2 id h0, fun i r hr => ⟨k.cell2 id (h1 i r hr).1, k.cell2 id (h1 i r hr).2⟩⟩
/-- j is the first place from 'start' on whose interval does not end before the key. -/
def Spot16 (rs : List (Nat × Nat)) (start key j : Nat) : Prop := start ≤ j ∧ j ≤ rs.length ∧ (∀ (i : Nat) (r : Nat × Nat), start ≤ i → i < j → rs[i]? = some r → r.2 < key) ∧ ∀ r : Nat × Nat, rs[j]? = some r → key ≤ r.2
/-- What the search answers. -/
def SPost (rs : List (Nat × Nat)) (start key : Nat) (w : World) (ed : Ending) (w' : World) : Prop := ∃ (W : Int) (b : Bool) (z : Int) (j : Nat), ed = .returned (.tuple #[.int .i64 W, .bool b, .int .i64 z]) ∧ Spot16 rs start key j ∧ (b = true → W = (j : Int)) ∧ (b = false → W + 1 = (j : Int)) ∧ Mild w w'
/-- What the search answers, whether the key is in the interval told besides. -/
def SPostB (rs : List (Nat × Nat)) (start key : Nat) (w : World) (ed : Ending) (w' : World) : Prop := ∃ (W : Int) (b : Bool) (z : Int) (j : Nat), ed = .returned (.tuple #[.int .i64 W, .bool b, .int .i64 z]) ∧ Spot16 rs start key j ∧ (b = true → W = (j : Int) ∧ ∃ r : Nat × Nat, rs[j]? = some r ∧ r.1 ≤ key) ∧ (b = false → W + 1 = (j : Int) ∧ ∀ r : Nat × Nat, rs[j]? = some r → key < r.1) ∧ Mild w w'
theorem SPostB.plain {rs : List (Nat × Nat)} {start key : Nat} {w w' : World} {ed : Ending} (h : SPostB rs start key w ed w') : SPost rs start key w ed w' := by
  obtain ⟨W, b, z, j, h1, h2, h3, h4, h5⟩ := h
  exact ⟨W, b, z, j, h1, h2, fun h => (h3 h).1, fun h => (h4 h).1, h5⟩
theorem runs_lt {rs : List (Nat × Nat)} (h : RgOK 65536 rs) {i j : Nat} {a b : Nat × Nat} (hij : i < j) (ha : rs[i]? = some a) (hb : rs[j]? = some b) : a.2 + 1 < b.1 := by
  obtain ⟨h1, rfl⟩ := List.getElem?_eq_some_iff.1 ha
  obtain ⟨h2, rfl⟩ := List.getElem?_eq_some_iff.1 hb
  exact List.pairwise_iff_getElem.1 h.2 i j h1 h2 hij
end Go.Roar
namespace Go.Proofs
open Go.RowKit Go.Roar

theorem last_r (r : Nat × Nat) (w : World) (h : r.1 ≤ r.2 ∧ r.2 < 65536) :
    Calls Tryz.prog 68 #[.agg #[.int .u16 (r.1 : Int), .int .u16 ((r.2 - r.1 : Nat) : Int)]] w fun ed w' => ed = .returned (.int .u16 (r.2 : Int)) ∧ Mild w w' := by
  have := last_any r.1 (r.2 - r.1) w (by omega)
  rwa [show r.1 + (r.2 - r.1) = r.2 by omega] at this

set_option maxRecDepth 100000 in
set_option maxHeartbeats 4000000 in
theorem searchB_any (p : Nat) (rs : List (Nat × Nat)) (key start : Nat) (w : World) (hR : RCV w p rs) (hr : RgOK 65536 rs) (h0 : 0 < rs.length) (hk : key ≤ 65536) (hs : start ≤ rs.length) (hl : rs.length ≤ 65536)
    (hprev : ∀ r : Nat × Nat, 0 < start → rs[start - 1]? = some r → r.2 < key) :
    Calls Tryz.prog 241 #[.pointer (some ⟨p, 0, none⟩), .int .i64 (key : Int), .int .i64 (start : Int), .int .i64 0] w fun ed w' => SPostB rs start key w ed w' := by
  obtain ⟨g, c, -, c0, hcell⟩ := hR
  have Hc := Lib.hid hcell
  have Hr := Lib.hid hr
  have Hp := Lib.hid hprev
  clear hcell hr hprev
  generalize hn : rs.length = n at *
  have Hn := Lib.hid hn
  clear hn
  have n0 : ((n : Int) == 0) = false := by rw [beq_eq_false_iff_ne]; omega
  have n1 : ¬ (n : Int) = 0 := by omega
  go_enter Tryz.func241, Tryz.ntmps241
  go_wp2
  go_loopw [12, 13, 10] (fun i j z wr => ∃ (a b : Nat) (Z : Int), i = .int .i64 a ∧ j = .int .i64 b ∧ z = .int .i64 Z ∧ start ≤ a ∧ a ≤ b ∧ b ≤ n ∧ Hid (∀ (t : Nat) (r : Nat × Nat), start ≤ t → t < a → rs[t]? = some r → r.1 ≤ key) ∧ Hid (∀ (t : Nat) (r : Nat × Nat), b ≤ t → rs[t]? = some r → key < r.1) ∧ w = wr) (fun i j _ _ => (intOf j).toNat - (intOf i).toNat)
  case atStart => exact ⟨start, n, 0, rfl, rfl, rfl, Nat.le_refl _, hs, Nat.le_refl _, Lib.hid (fun t r h1 h2 => by omega), Lib.hid (fun t r h1 h2 => by rw [List.getElem?_eq_none (by rw [Hn.out]; exact h1)] at h2; cases h2), rfl⟩
  case round =>
    obtain ⟨a, b, Z, rfl, rfl, rfl, a1, a2, a3, Ha, Hb, rfl⟩ := hrel
    by_cases hab : a < b
    · have i1 : (a : Int) < (b : Int) := by omega
      obtain ⟨h, hh⟩ : ∃ h, h = a + (b - a) / 2 := ⟨_, rfl⟩
      have e1 : (a : Int) + ((b : Int) - (a : Int)) / 2 = (h : Int) := by omega
      have e2 : ((b : Int) - (a : Int)).tdiv 2 = ((b : Int) - (a : Int)) / 2 := Int.tdiv_eq_ediv_of_nonneg (by omega)
      have h1 : a ≤ h := by omega
      have h2 : h < b := by omega
      obtain ⟨r, hx⟩ : ∃ r, rs[h]? = some r := ⟨_, List.getElem?_eq_getElem (by rw [Hn.out]; omega)⟩
      have c1 := (Hc.out h r hx).1
      have hr1 := Hr.out.1 r (List.mem_of_getElem? hx)
      have i3 : (h : Int) < (n : Int) := by omega
      have Hh := Lib.hid hh
      clear hh
      by_cases hkr : key < r.1
      · have i2 : decide ((key : Int) < (r.1 : Int)) = true := by simp; omega
        have HB2 := Lib.hid (show ∀ (t : Nat) (q : Nat × Nat), h ≤ t → rs[t]? = some q → key < q.1 from fun t q h3 h4 => by
          rcases Nat.eq_or_lt_of_le h3 with rfl | h3
          · rw [hx] at h4; simp at h4; subst h4; exact hkr
          · have := runs_lt Hr.out h3 hx h4; omega)
        clear hx
        go_wp2
        go_roundw
        case rel => exact ⟨a, h, _, rfl, rfl, rfl, a1, h1, by omega, Ha, HB2, by first | rfl | trivial⟩
        case measure => simp only [intOf]; omega
      · have i2 : decide ((key : Int) < (r.1 : Int)) = false := by simp; omega
        have HA2 := Lib.hid (show ∀ (t : Nat) (q : Nat × Nat), start ≤ t → t < h + 1 → rs[t]? = some q → q.1 ≤ key from fun t q h3 h4 h5 => by
          rcases Nat.eq_or_lt_of_le (Nat.le_of_lt_succ h4) with rfl | h4
          · rw [hx] at h5; simp at h5; subst h5; omega
          · have := runs_lt Hr.out h4 h5 hx
            have := Hr.out.1 q (List.mem_of_getElem? h5)
            omega)
        clear hx
        go_wp2
        go_roundw
        case rel => exact ⟨h + 1, b, _, by go_num, rfl, rfl, by omega, by omega, a3, HA2, Hb, by first | rfl | trivial⟩
        case measure => simp only [intOf]; omega
    · obtain rfl : a = b := by omega
      have i0 : ¬ (a : Int) < (a : Int) := by omega
      by_cases han : a = n
      · subst han
        obtain ⟨r, hx⟩ : ∃ r, rs[a - 1]? = some r := ⟨_, List.getElem?_eq_getElem (by rw [Hn.out]; omega)⟩
        obtain ⟨c1, c2⟩ := Hc.out (a - 1) r hx
        have hr1 := Hr.out.1 r (List.mem_of_getElem? hx)
        obtain ⟨m, hm⟩ : ∃ m, m = a - 1 := ⟨_, rfl⟩
        rw [← hm] at c1 c2
        have e1 : (a : Int) - 1 = (m : Int) := by omega
        have i3 : (m : Int) < (a : Int) := by omega
        have L := Lib.hid (fun (W : World) => last_r r W hr1)
        have Hm := Lib.hid hm
        by_cases hkr : key ≤ r.2
        · have i2 : decide ((key : Int) < (r.2 : Int) + 1) = true := by simp; omega
          have HX : Hid (∃ q : Nat × Nat, rs[m]? = some q ∧ q.1 ≤ key) := Lib.hid ⟨r, by rw [hm]; exact hx, by
              rcases Nat.lt_or_ge (a - 1) start with h | h
              · have : start = a := by omega
                have := Hp.out r (by omega) (by rw [this]; exact hx)
                omega
              · exact Ha.out (a - 1) r h (by omega) hx⟩
          have HP : Hid (Spot16 rs start key m) := Lib.hid ⟨by
              rcases Nat.lt_or_ge m start with h | h
              · have : start = a := by omega
                have := Hp.out r (by omega) (by rw [this]; exact hx)
                omega
              · exact h, by rw [Hn.out]; omega, fun i q h1 h2 h3 => by
              have := runs_lt Hr.out (by omega) h3 hx
              have := Ha.out (a - 1) r (by omega) (by omega) hx
              omega, fun q hq => by rw [hm, hx] at hq; simp at hq; subst hq; exact hkr⟩
          clear hx hm
          go_wp2_with (first
            | (go_at_call 68; (with_reducible refine (L.out _).mono ?_); rintro ed w1 ⟨rfl, k1⟩)
            | fail)
          go_ret3
          unfold SPostB
          exact ⟨_, _, _, m, rfl, HP.out, fun _ => ⟨rfl, HX.out⟩, (fun h => by cases h), by first | exact k1 | exact ((Kept.refl _ _).alloc _).trans k1⟩
        · have i2 : decide ((key : Int) < (r.2 : Int) + 1) = false := by simp; omega
          have HX : Hid (∀ q : Nat × Nat, rs[a]? = some q → key < q.1) := Lib.hid (fun q hq => by rw [List.getElem?_eq_none (by rw [Hn.out]; exact Nat.le_refl _)] at hq; cases hq)
          have HP : Hid (Spot16 rs start key a) := Lib.hid ⟨a1, by rw [Hn.out]; exact Nat.le_refl _, fun i q h1 h2 h3 => by
              rcases Nat.eq_or_lt_of_le (show i ≤ a - 1 by omega) with rfl | h4
              · rw [hx] at h3; simp at h3; subst h3; omega
              · have := runs_lt Hr.out h4 h3 hx; omega, fun q hq => by rw [List.getElem?_eq_none (by rw [Hn.out]; exact Nat.le_refl _)] at hq; cases hq⟩
          clear hx hm
          go_wp2_with (first
            | (go_at_call 68; (with_reducible refine (L.out _).mono ?_); rintro ed w1 ⟨rfl, k1⟩)
            | fail)
          go_ret3
          unfold SPostB
          exact ⟨_, _, _, a, rfl, HP.out, (fun h => by cases h), (fun _ => ⟨by show (m : Int) + 1 = (a : Int); omega, HX.out⟩), by first | exact k1 | exact ((Kept.refl _ _).alloc _).trans k1⟩
      · have n2 : ((a : Int) == (n : Int)) = false := by rw [beq_eq_false_iff_ne]; omega
        have n3 : ¬ (a : Int) = (n : Int) := by omega
        obtain ⟨ra, hxa⟩ : ∃ r, rs[a]? = some r := ⟨_, List.getElem?_eq_getElem (by rw [Hn.out]; omega)⟩
        have hka := Hb.out a ra (Nat.le_refl _) hxa
        have hra := Hr.out.1 ra (List.mem_of_getElem? hxa)
        rcases Nat.eq_zero_or_pos a with rfl | hapos
        · have HX : Hid (∀ q : Nat × Nat, rs[0]? = some q → key < q.1) := Lib.hid (fun q hq => by rw [hxa] at hq; simp at hq; subst hq; exact hka)
          have HP : Hid (Spot16 rs start key 0) := Lib.hid ⟨by omega, Nat.zero_le _, fun i q h1 h2 h3 => by omega, fun q hq => by rw [hxa] at hq; simp at hq; subst hq; omega⟩
          clear hxa
          go_wp2
          go_ret3
          unfold SPostB
          exact ⟨_, _, _, 0, rfl, HP.out, (fun h => by cases h), (fun _ => ⟨by first | rfl | omega, HX.out⟩), Kept.refl _ _⟩
        · obtain ⟨r, hx⟩ : ∃ r, rs[a - 1]? = some r := ⟨_, List.getElem?_eq_getElem (by rw [Hn.out]; omega)⟩
          obtain ⟨c1, c2⟩ := Hc.out (a - 1) r hx
          have hr1 := Hr.out.1 r (List.mem_of_getElem? hx)
          have hrk : r.1 ≤ key := by
            rcases Nat.lt_or_ge (a - 1) start with h | h
            · have : start = a := by omega
              have := Hp.out r (by omega) (by rw [this]; exact hx)
              omega
            · exact Ha.out (a - 1) r h (by omega) hx
          obtain ⟨m, hm⟩ : ∃ m, m = a - 1 := ⟨_, rfl⟩
          rw [← hm] at c1 c2
          have e1 : (a : Int) - 1 = (m : Int) := by omega
          have i3 : (m : Int) < (n : Int) := by omega
          have n4 : ((a : Int) == 0) = false := by rw [beq_eq_false_iff_ne]; omega
          have n5 : ¬ (a : Int) = 0 := by omega
          have i4 : decide ((r.1 : Int) ≤ (key : Int)) = true := by simp; omega
          have L := Lib.hid (fun (W : World) => last_r r W hr1)
          by_cases hkr : key ≤ r.2
          · have i2 : decide ((key : Int) < (r.2 : Int) + 1) = true := by simp; omega
            have HX : Hid (∃ q : Nat × Nat, rs[m]? = some q ∧ q.1 ≤ key) := Lib.hid ⟨r, by rw [hm]; exact hx, hrk⟩
            have HP : Hid (Spot16 rs start key m) := Lib.hid ⟨by
                rcases Nat.lt_or_ge m start with h | h
                · have : start = a := by omega
                  have := Hp.out r (by omega) (by rw [this]; exact hx)
                  omega
                · exact h, by rw [Hn.out]; omega, fun i q h1 h2 h3 => by
                have := runs_lt Hr.out (by omega) h3 hx
                omega, fun q hq => by rw [hm, hx] at hq; simp at hq; subst hq; exact hkr⟩
            clear hx hm hxa
            go_wp2_with (first
              | (go_at_call 68; (with_reducible refine (L.out _).mono ?_); rintro ed w1 ⟨rfl, k1⟩)
              | fail)
            go_ret3
            unfold SPostB
            exact ⟨_, _, _, m, rfl, HP.out, fun _ => ⟨rfl, HX.out⟩, (fun h => by cases h), by first | exact k1 | exact ((Kept.refl _ _).alloc _).trans k1⟩
          · have i2 : decide ((key : Int) < (r.2 : Int) + 1) = false := by simp; omega
            have HX : Hid (∀ q : Nat × Nat, rs[a]? = some q → key < q.1) := Lib.hid (fun q hq => by rw [hxa] at hq; simp at hq; subst hq; exact hka)
            have HP : Hid (Spot16 rs start key a) := Lib.hid ⟨a1, by rw [Hn.out]; omega, fun i q h1 h2 h3 => by
                rcases Nat.eq_or_lt_of_le (show i ≤ a - 1 by omega) with rfl | h4
                · rw [hx] at h3; simp at h3; subst h3; omega
                · have := runs_lt Hr.out h4 h3 hx; omega, fun q hq => by rw [hxa] at hq; simp at hq; subst hq; omega⟩
            clear hx hm hxa
            go_wp2_with (first
              | (go_at_call 68; (with_reducible refine (L.out _).mono ?_); rintro ed w1 ⟨rfl, k1⟩)
              | fail)
            go_ret3
            unfold SPostB
            exact ⟨_, _, _, a, rfl, HP.out, (fun h => by cases h), (fun _ => ⟨by show (m : Int) + 1 = (a : Int); omega, HX.out⟩), by first | exact k1 | exact ((Kept.refl _ _).alloc _).trans k1⟩

theorem search_any (p : Nat) (rs : List (Nat × Nat)) (key start : Nat) (w : World) (hR : RCV w p rs) (hr : RgOK 65536 rs) (h0 : 0 < rs.length) (hk : key ≤ 65536) (hs : start ≤ rs.length) (hl : rs.length ≤ 65536)
    (hprev : ∀ r : Nat × Nat, 0 < start → rs[start - 1]? = some r → r.2 < key) :
    Calls Tryz.prog 241 #[.pointer (some ⟨p, 0, none⟩), .int .i64 (key : Int), .int .i64 (start : Int), .int .i64 0] w fun ed w' => SPost rs start key w ed w' :=
  (searchB_any p rs key start w hR hr h0 hk hs hl hprev).mono (fun _ _ h => h.plain)

set_option maxRecDepth 100000 in
set_option maxHeartbeats 1000000 in
theorem indexAfter_any (p : Nat) (rs : List (Nat × Nat)) (key start : Nat) (w : World) (hR : RCV w p rs) (hr : RgOK 65536 rs) (h0 : 0 < rs.length) (hk : key ≤ 65536) (hs : start ≤ rs.length) (hl : rs.length ≤ 65536)
    (hprev : ∀ r : Nat × Nat, 0 < start → rs[start - 1]? = some r → r.2 < key) :
    Calls Tryz.prog 232 #[.pointer (some ⟨p, 0, none⟩), .int .i64 (key : Int), .int .i64 (start : Int)] w fun ed w' => ∃ j : Nat, ed = .returned (.int .i64 (j : Int)) ∧ Spot16 rs start key j ∧ Mild w w' := by
  have S := Lib.hid (search_any p rs key start w hR hr h0 hk hs hl hprev)
  clear hR hr hprev
  go_enter Tryz.func232, Tryz.ntmps232
  go_upto_if 18 with (first
    | (go_at_call 241; (with_reducible refine S.out.mono ?_); rintro ed w1 ⟨W, b, z, j, rfl, hP, hb1, hb2, k1⟩; have HP := Lib.hid hP; have H1 := Lib.hid hb1; have H2 := Lib.hid hb2; have hj := hP.2.1; clear hP hb1 hb2)
    | fail)
  cases b
  · have e : W = (j : Int) - 1 := by have := H2.out rfl; omega
    subst e
    go_wp2
    go_ret
    exact ⟨j, by first | rfl | (congr 2; omega), HP.out, k1⟩
  · obtain rfl := H1.out rfl
    go_wp2
    go_ret
    exact ⟨j, rfl, HP.out, k1⟩
end Go.Proofs

namespace Go.Roar

/-- The runs k up to j and the range s, t are melted to x, y. -/
structure Melt (a : List (Nat × Nat)) (s t k j x y : Nat) : Prop where
  kj : k ≤ j
  jn : j ≤ a.length
  lo : ∀ (i : Nat) (r : Nat × Nat), i < k → a[i]? = some r → r.2 + 1 < x
  xs : x ≤ s
  ty : t ≤ y
  yb : y < 65536
  mid : ∀ (i : Nat) (r : Nat × Nat), k ≤ i → i < j → a[i]? = some r → x ≤ r.1 ∧ r.2 ≤ y
  all : ∀ n, x ≤ n → n ≤ y → (∃ (i : Nat) (r : Nat × Nat), k ≤ i ∧ i < j ∧ a[i]? = some r ∧ r.1 ≤ n ∧ n ≤ r.2) ∨ (s ≤ n ∧ n ≤ t)

theorem Melt.start {a : List (Nat × Nat)} {s t k : Nat} (hk : k ≤ a.length) (ht : t < 65536) (h : ∀ (i : Nat) (r : Nat × Nat), i < k → a[i]? = some r → r.2 + 1 < s) : Melt a s t k k s t where
  kj := Nat.le_refl _
  jn := hk
  lo := h
  xs := Nat.le_refl _
  ty := Nat.le_refl _
  yb := ht
  mid := fun i r h1 h2 => by omega
  all := fun n h1 h2 => .inr ⟨h1, h2⟩

theorem Melt.more {a : List (Nat × Nat)} {s t k j x y i : Nat} {r : Nat × Nat} (ha : RgOK 65536 a) (h : Melt a s t k j x y) (hr : a[j]? = some r) (hc : x ≤ r.2 + 1 ∧ r.1 ≤ y + 1)
    (hi : Spot16 a (j + 1) (Nat.max r.2 y + 1) i) : Melt a s t k i (Nat.min r.1 x) (Nat.max r.2 y) := by
  change Spot16 a (j + 1) (max r.2 y + 1) i at hi
  show Melt a s t k i (min r.1 x) (max r.2 y)
  obtain ⟨i1, i2, i3, i4⟩ := hi
  have hr1 := ha.1 r (List.mem_of_getElem? hr)
  have hkj := h.kj
  have hxs := h.xs
  have hty := h.ty
  have hyb := h.yb
  refine ⟨by omega, i2, fun q p hq hp => ?_, by omega, by omega, by omega, fun q p h1 h2 hp => ?_, fun n h1 h2 => ?_⟩
  · have e1 := h.lo q p hq hp
    have e2 := runs_lt ha (show q < j by omega) hp hr
    omega
  · rcases Nat.lt_or_ge q j with hqj | hqj
    · have := h.mid q p h1 hqj hp
      omega
    · rcases Nat.eq_or_lt_of_le hqj with rfl | hqj
      · rw [hr] at hp; simp at hp; subst hp; omega
      · have e1 := i3 q p (by omega) h2 hp
        have e2 := runs_lt ha hqj hr hp
        have e3 := ha.1 p (List.mem_of_getElem? hp)
        omega
  · rcases Nat.lt_or_ge n x with hx | hx
    · exact .inl ⟨j, r, h.kj, by omega, hr, by omega, by omega⟩
    · rcases Nat.lt_or_ge y n with hy | hy
      · exact .inl ⟨j, r, h.kj, by omega, hr, by omega, by omega⟩
      · rcases h.all n hx hy with ⟨q, p, q1, q2, q3, q4⟩ | q
        · exact .inl ⟨q, p, q1, by omega, q3, q4⟩
        · exact .inr q

theorem Melt.done {a : List (Nat × Nat)} {s t k j x y : Nat} (ha : RgOK 65536 a) (h : Melt a s t k j x y) (hst : s ≤ t) (hj : ∀ r : Nat × Nat, a[j]? = some r → y + 1 < r.1) :
    RgOK 65536 (a.take k ++ (x, y) :: a.drop j) ∧ rgNums (a.take k ++ (x, y) :: a.drop j) = addS (rgNums a) s (t + 1) := by
  refine melt_ok ha hst h.kj h.jn h.lo (fun i r hi hr => ?_) h.xs h.ty h.yb h.mid h.all
  rcases Nat.eq_or_lt_of_le hi with rfl | hi
  · exact hj r hr
  · have hl := (List.getElem?_eq_some_iff.1 hr).1
    obtain ⟨q, hq⟩ : ∃ q, a[j]? = some q := ⟨_, List.getElem?_eq_getElem (by omega)⟩
    have e1 := hj q hq
    have e2 := runs_lt ha hi hq hr
    have e3 := ha.1 q (List.mem_of_getElem? hq)
    omega
/-- What the union of runs with one range is. -/
def UnionR (a : List (Nat × Nat)) (s t : Nat) (m : List (Nat × Nat)) : Prop := RgOK 65536 m ∧ rgNums m = addS (rgNums a) s (t + 1) ∧ m.length ≤ a.length + 1 ∧ 0 < m.length
theorem Melt.union {a : List (Nat × Nat)} {s t k j x y : Nat} (ha : RgOK 65536 a) (h : Melt a s t k j x y) (hst : s ≤ t) (hj : ∀ r : Nat × Nat, a[j]? = some r → y + 1 < r.1) :
    UnionR a s t (a.take k ++ (x, y) :: a.drop j) := by
  obtain ⟨h1, h2⟩ := h.done ha hst hj
  have := h.kj
  have := h.jn
  exact ⟨h1, h2, by simp; omega, by simp; omega⟩
end Go.Roar

namespace Go.Proofs
open Go.RowKit Go.Roar

theorem bmSize_any (w : World) : Calls Tryz.prog 57 #[] w fun ed w' => ed = .returned (.int .i64 8224) ∧ w = w' := by
  go_enter Tryz.func57, Tryz.ntmps57
  go_wp2
  go_ret
  exact ⟨rfl, rfl⟩
theorem acSize_any (n : Nat) (w : World) (h : n ≤ 65536) : Calls Tryz.prog 59 #[.int .i64 (n : Int)] w fun ed w' => ed = .returned (.int .i64 ((2 * n : Nat) : Int)) ∧ w = w' := by
  go_enter Tryz.func59, Tryz.ntmps59
  go_wp2
  go_ret
  exact ⟨ret_int (by omega), rfl⟩
theorem rcSer_any (n : Nat) (w : World) (h : n ≤ 65536) : Calls Tryz.prog 154 #[.int .i64 (n : Int)] w fun ed w' => ed = .returned (.int .i64 ((2 + 4 * n : Nat) : Int)) ∧ w = w' := by
  go_enter Tryz.func154, Tryz.ntmps154
  go_wp2
  go_ret
  exact ⟨ret_int (by omega), rfl⟩
theorem minOf_any (a b : Nat) (w : World) : Calls Tryz.prog 60 #[.int .i64 (a : Int), .int .i64 (b : Int)] w fun ed w' => ed = .returned (.int .i64 ((Nat.min a b : Nat) : Int)) ∧ w = w' := by
  by_cases h : a < b
  · have h1 : (a : Int) < (b : Int) := by omega
    have h2 : Nat.min a b = a := Nat.min_eq_left (by omega)
    rw [h2]
    go_enter Tryz.func60, Tryz.ntmps60
    go_wp2
    go_ret
    exact ⟨rfl, rfl⟩
  · have h1 : ¬ (a : Int) < (b : Int) := by omega
    have h2 : Nat.min a b = b := Nat.min_eq_right (by omega)
    rw [h2]
    go_enter Tryz.func60, Tryz.ntmps60
    go_wp2
    go_ret
    exact ⟨rfl, rfl⟩
theorem rcBytes_any (p : Nat) (a : Option Addr) (n c : Nat) (w : World) (h : n ≤ 65536) (h0 : w.cell? ⟨p, 0, none⟩ = some (.slice a n c)) :
    Calls Tryz.prog 56 #[.pointer (some ⟨p, 0, none⟩)] w fun ed w' => ed = .returned (.int .i64 ((2 + 4 * n : Nat) : Int)) ∧ w = w' := by
  go_enter Tryz.func56, Tryz.ntmps56
  go_wp2
  go_ret
  exact ⟨ret_int (by omega), rfl⟩
theorem bcCard_any (p : Nat) (n : Int) (w : World) (h0 : w.cell? ⟨p, 0, none⟩ = some (.int .i64 n)) :
    Calls Tryz.prog 165 #[.pointer (some ⟨p, 0, none⟩)] w fun ed w' => ed = .returned (.int .i64 n) ∧ w = w' := by
  go_enter Tryz.func165, Tryz.ntmps165
  go_wp2
  go_ret
  exact ⟨rfl, rfl⟩
end Go.Proofs
