/-
  Plain laws: an array of numbers turned round in a range, as the library writes it.
  arrayContainer.negateRange: the numbers of a range that an array has not, written into its place.
  copyOf: an array of numbers in a longer one.
-/
import Derived.Test.YtjjijipfhnoomaaGreatDoorJOra
namespace Go.Roar
open Go.RowKit Go.Proofs
/-- Of the n numbers from s on those that a list has not. -/
def compl (l : List Nat) (s n : Nat) : List Nat := (List.range' s n).filter (fun y => decide (y ∉ l))
theorem compl_zero (l : List Nat) (s : Nat) : compl l s 0 = [] := rfl
theorem compl_succ (l : List Nat) (s n : Nat) : compl l s (n + 1) = compl l s n ++ (if s + n ∈ l then [] else [s + n]) := by
  unfold compl
  rw [List.range'_concat, List.filter_append, Nat.one_mul]
  congr 1
  by_cases h : s + n ∈ l <;> simp [h]
theorem compl_len {l : List Nat} (hs : Rising l) (s n : Nat) : (compl l s n).length + lb l (s + n) = n + lb l s := by
  induction n with
  | zero => rw [compl_zero]; simp
  | succ n ih =>
    obtain ⟨h1, h2⟩ := lb_succ hs (s + n)
    rw [compl_succ, List.length_append, show s + (n + 1) = s + n + 1 by omega]
    by_cases h : s + n ∈ l
    · rw [h1 ((mem_lb hs).1 h), if_pos h]
      simp only [List.length_nil]; omega
    · rw [h2 (fun g => h ((mem_lb hs).2 g)), if_neg h]
      simp only [List.length_cons, List.length_nil]; omega
theorem compl_lt {l : List Nat} {s n : Nat} : ∀ x ∈ compl l s n, s ≤ x ∧ x < s + n := fun x hx => by
  unfold compl at hx
  rw [List.mem_filter, List.mem_range'_1] at hx
  exact hx.1
theorem below_lb {l : List Nat} (hs : Rising l) (s : Nat) : l.filter (fun y => decide (y < s)) = l.take (lb l s) := by
  have h := cutS_lb hs (show s ≤ s + (l.sum + 1) by omega)
  have hm : ∀ x ∈ l, x < s + (l.sum + 1) := fun x hx => by have := mem_le_sum l x hx; omega
  rw [lb_all hm, List.drop_length, List.append_nil] at h
  rw [← h]
  unfold cutS
  refine List.filter_congr (fun x hx => ?_)
  have := hm x hx
  rw [decide_eq_decide]
  omega
theorem above_lb {l : List Nat} (hs : Rising l) (e : Nat) : l.filter (fun y => decide (e ≤ y)) = l.drop (lb l e) := by
  have h := cutS_lb hs (Nat.zero_le e)
  have h0 : lb l 0 = 0 := by unfold lb; simp
  rw [h0, List.take_zero, List.nil_append] at h
  rw [← h]
  unfold cutS
  refine List.filter_congr (fun x hx => ?_)
  rw [decide_eq_decide]
  omega
theorem xorS_lb {l : List Nat} (hs : Rising l) (s e : Nat) : xorS l s e = l.take (lb l s) ++ (compl l s (e - s) ++ l.drop (lb l e)) := by
  unfold xorS
  rw [below_lb hs, above_lb hs]
  rfl
theorem xorS_len {l : List Nat} (hs : Rising l) {s e : Nat} (hse : s ≤ e) : (xorS l s e).length + (lb l e - lb l s) = l.length + (compl l s (e - s)).length := by
  have h1 := lb_le l s
  have h2 := lb_le l e
  have h3 := lb_monoR hs hse
  rw [xorS_lb hs, List.length_append, List.length_append, List.length_take, List.length_drop, Nat.min_eq_left h1]
  omega
/-- Where the buffer stands: the numbers from s up to v that the list has not lie ahead in it, k is the place of the next one that it has. -/
structure NG (l : List Nat) (s v k o : Nat) (b : List Nat) : Prop where
  sv : s ≤ v
  hk : k = lb l v
  ho : o = (compl l s (v - s)).length
  hb : b.take o = compl l s (v - s)
  hlen : o ≤ b.length
theorem NG.start {l : List Nat} {s : Nat} (b : List Nat) : NG l s s (lb l s) 0 b := ⟨Nat.le_refl _, rfl, by rw [Nat.sub_self]; rfl, by rw [Nat.sub_self]; rfl, Nat.zero_le _⟩
theorem NG.has {l : List Nat} {s v k o : Nat} {b : List Nat} (h : NG l s v k o b) (hs : Rising l) (hv : l[k]? = some v) : NG l s (v + 1) (k + 1) o b := by
  have hm : v ∈ l := (mem_lb hs).2 (by rw [← h.hk]; exact hv)
  have e : compl l s (v + 1 - s) = compl l s (v - s) := by
    rw [show v + 1 - s = v - s + 1 by have := h.sv; omega, compl_succ, if_pos (by rw [show s + (v - s) = v by have := h.sv; omega]; exact hm), List.append_nil]
  refine ⟨by have := h.sv; omega, ?_, by rw [e]; exact h.ho, by rw [e]; exact h.hb, h.hlen⟩
  rw [(lb_succ hs v).1 (by rw [← h.hk]; exact hv), h.hk]
theorem NG.not {l : List Nat} {s v k o : Nat} {b : List Nat} (h : NG l s v k o b) (hs : Rising l) (hv : l[k]? ≠ some v) (hob : o < b.length) : NG l s (v + 1) k (o + 1) (b.set o v) := by
  have hm : v ∉ l := fun g => hv (by rw [h.hk]; exact (mem_lb hs).1 g)
  have e : compl l s (v + 1 - s) = compl l s (v - s) ++ [v] := by
    rw [show v + 1 - s = v - s + 1 by have := h.sv; omega, compl_succ, show s + (v - s) = v by have := h.sv; omega, if_neg hm]
  refine ⟨by have := h.sv; omega, ?_, by rw [e, List.length_append, ← h.ho]; rfl, ?_, by rw [List.length_set]; exact hob⟩
  · rw [(lb_succ hs v).2 (by rw [← h.hk]; exact hv), h.hk]
  · rw [e, ← h.hb, List.take_set, List.take_add_one, List.getElem?_eq_getElem hob]
    have hl : (b.take o).length = o := by rw [List.length_take]; have := h.hlen; omega
    rw [List.set_append_right _ _ (by rw [hl]; exact Nat.le_refl _), hl, Nat.sub_self]
    rfl
/-- There is room for one more, ahead of the end. -/
theorem NG.room {l : List Nat} {s v k o e : Nat} {b : List Nat} (h : NG l s v k o b) (hs : Rising l) (hv : l[k]? ≠ some v) (hve : v < e) (hb : b.length = (compl l s (e - s)).length) : o < b.length := by
  have hm : v ∉ l := fun g => hv (by rw [h.hk]; exact (mem_lb hs).1 g)
  have hsv := h.sv
  have l1 := compl_len hs s (v - s)
  have l2 := compl_len hs s (v + 1 - s)
  have l3 := compl_len hs s (e - s)
  rw [show s + (v - s) = v by omega, ← h.ho] at l1
  rw [show s + (v + 1 - s) = v + 1 by omega, (lb_succ hs v).2 (by rw [← h.hk]; exact hv)] at l2
  rw [show s + (e - s) = e by omega, ← hb] at l3
  have l4 := lb_gap hs (v + 1) (e - (v + 1))
  rw [show v + 1 + (e - (v + 1)) = e by omega, (lb_succ hs v).2 (by rw [← h.hk]; exact hv)] at l4
  omega
/-- Behind the list's last number ahead of the end none is in it. -/
theorem NG.past {l : List Nat} {s v k o e : Nat} {b : List Nat} (h : NG l s v k o b) (hs : Rising l) (hve : v < e) (hk : lb l e ≤ k) : l[k]? ≠ some v := fun g => by
  have h1 := (lb_succ hs v).1 (by rw [← h.hk]; exact g)
  have h2 := lb_mono l (show v + 1 ≤ e by omega)
  have h3 := h.hk
  omega
theorem NG.fin {l : List Nat} {s k o e : Nat} {b : List Nat} (h : NG l s e k o b) (hb : b.length = (compl l s (e - s)).length) : o = b.length ∧ b = compl l s (e - s) := by
  have h1 : o = b.length := by rw [h.ho, hb]
  refine ⟨h1, ?_⟩
  rw [← h.hb, h1, List.take_length]
end Go.Roar

namespace Go.Roar
open Go.RowKit Go.Proofs
/-- An array container with a buffer beside it. -/
def NP (p g c n gb cb nv : Nat) (zs bs : List Nat) : List HA := [B p 106 [.slice (some ⟨g, 0, none⟩) n c], O 1 57 (.slice (some ⟨g, 0, none⟩) n c) n (u16s zs), O 1 57 (.slice (some ⟨gb, 0, none⟩) nv cb) nv (u16s bs)]
/-- The first r numbers of C laid over a list from the place i on. -/
def over (zs : List Nat) (i : Nat) (C : List Nat) (r : Nat) : List Nat := zs.take i ++ (C.take r ++ zs.drop (i + r))
theorem over_zero (zs : List Nat) (i : Nat) (C : List Nat) : over zs i C 0 = zs := by unfold over; simp
theorem over_len {zs : List Nat} {i : Nat} {C : List Nat} {r : Nat} (hr : r ≤ C.length) (h : i + C.length ≤ zs.length) : (over zs i C r).length = zs.length := by
  unfold over
  simp only [List.length_append, List.length_take, List.length_drop]
  omega
theorem over_set {zs : List Nat} {i : Nat} {C : List Nat} {r y : Nat} (hy : C[r]? = some y) (h : i + C.length ≤ zs.length) : (over zs i C r).set (i + r) y = over zs i C (r + 1) := by
  obtain ⟨hr, rfl⟩ := List.getElem?_eq_some_iff.1 hy
  have h1 : (zs.take i).length = i := by rw [List.length_take]; omega
  have h2 : (C.take r).length = r := by rw [List.length_take]; omega
  unfold over
  rw [List.set_append_right _ _ (by omega), h1, List.set_append_right _ _ (by omega), h2, show i + r - i - r = 0 by omega, List.drop_eq_getElem_cons (show i + r < zs.length by omega), List.set_cons_zero, show C.take (r + 1) = C.take r ++ [C[r]] by rw [List.take_add_one, List.getElem?_eq_getElem hr]; rfl, List.append_assoc, Nat.add_assoc]
  rfl
end Go.Roar
namespace Go.Proofs
open Go.RowKit Go.Roar
attribute [local go_sem ↓] Go.wp_at_zero Go.wp_at_succ

set_option maxRecDepth 100000 in
set_option maxHeartbeats 4000000 in
theorem negate_any (p g c n gb cb nv i j s e : Nat) (J : Int) (l zs bs : List Nat) (w : World) (hs : Rising l) (hb : ∀ y ∈ l, y < 65536) (hi : i = lb l s) (hj : j = lb l e) (hJ : J = (j : Int) - 1) (hse : s < e) (he : e ≤ 65536)
    (hz : zs.length = n) (hn : n ≤ 65536) (hzl : ∀ k, k < j → zs[k]? = l[k]?) (hin : i + nv ≤ n) (hnv : nv = (compl l s (e - s)).length) (hbl : bs.length = nv) (h : Parts w (NP p g c n gb cb nv zs bs)) :
    Calls Tryz.prog 159 #[.pointer (some ⟨p, 0, none⟩), .slice (some ⟨gb, 0, none⟩) nv cb, .int .i64 (i : Int), .int .i64 J, .int .i64 (s : Int), .int .i64 (e : Int)] w fun ed w' => ed = .returned (.tuple #[]) ∧ SS w (foot (NP p g c n gb cb nv zs bs)) w' (NP p g c n gb cb nv (over zs i (compl l s (e - s)) nv) (compl l s (e - s))) := by
  have HS0 := Lib.hid (SS.init h)
  generalize foot (NP p g c n gb cb nv zs bs) = F at *
  have HN0 : Hid (NG l s s i 0 bs) := Lib.hid (by rw [hi]; exact NG.start bs)
  have hij : i ≤ j := by rw [hi, hj]; exact lb_monoR hs (by omega)
  have hjl : j ≤ l.length := by rw [hj]; exact lb_le l e
  obtain ⟨C, hC⟩ : ∃ C, C = compl l s (e - s) := ⟨_, rfl⟩
  rw [← hC] at hnv ⊢
  have Hs := Lib.hid hs
  have Hb := Lib.hid hb
  have Hi := Lib.hid hi
  have Hj := Lib.hid hj
  have Hz := Lib.hid hz
  have Hzl := Lib.hid hzl
  have Hnv := Lib.hid hnv
  have Hbl := Lib.hid hbl
  have HC := Lib.hid hC
  have HJ := Lib.hid hJ
  have hjz : j ≤ n := by
    rcases Nat.lt_or_ge n j with h1 | h1
    · exfalso
      have := hzl n h1
      rw [List.getElem?_eq_none (by omega), List.getElem?_eq_getElem (by omega)] at this
      cases this
    · exact h1
  clear hs hb hi hj hz hzl hnv hbl hC hJ h
  go_enter Tryz.func159, Tryz.ntmps159
  go_wp2_with fail
  go_loopw [12, 13, 14] (fun s12 s13 s14 wr => ∃ (v k o : Nat) (b : List Nat), s12 = .int .i64 (o : Int) ∧ s13 = .int .i64 (k : Int) ∧ s14 = .int .i64 (v : Int) ∧ k ≤ j ∧ v ≤ e ∧ s ≤ v ∧ Hid (NG l s v k o b) ∧ Hid (b.length = nv) ∧ Hid (SS w F wr (NP p g c n gb cb nv zs b))) (fun _ _ s14 _ => e - (intOf s14).toNat)
  case atStart => exact ⟨s, i, 0, bs, rfl, rfl, rfl, hij, by omega, Nat.le_refl _, HN0, Hbl, HS0⟩
  case round =>
    clear HN0 HS0
    obtain ⟨v, k, o, b, rfl, rfl, rfl, hk, hv, hsv, HN, HB, HS⟩ := hrel
    by_cases hc : v < e ∧ k < j
    · obtain ⟨hv2, hk2⟩ := hc
      have i1 : (v : Int) < (e : Int) := by omega
      have i2 : (k : Int) ≤ J := by have := HJ.out; omega
      have q1 : IntKind.u16.wrap (v : Int) = (v : Int) := IntWalk.u16_in _ (by omega)
      obtain ⟨y, hy⟩ : ∃ y, l[k]? = some y := ⟨_, List.getElem?_eq_getElem (by omega)⟩
      have hzy : zs[k]? = some y := (Hzl.out k hk2).trans hy
      have f0 := HS.out.cell 0 rfl 0 rfl
      have ca := Own.cellAt (HS.out.get (A := O 1 57 (.slice (some ⟨g, 0, none⟩) n c) n (u16s zs)) (by simp [NP])) (u16s_get hzy)
      have hkn : k < n := by omega
      by_cases hvy : v = y
      · subst hvy
        have HN2 := Lib.hid (HN.out.has Hs.out hy)
        clear hy hzy
        go_wp2_with fail
        go_roundw
        case rel => exact ⟨v + 1, k + 1, o, b, rfl, by go_num, by go_num, by omega, by omega, by omega, HN2, HB, HS⟩
        case measure => simp only [intOf]; omega
      · have hne : l[k]? ≠ some v := by rw [hy]; simp; omega
        have hon := HN.out.room Hs.out hne hv2 (by rw [HB.out, Hnv.out, HC.out])
        rw [HB.out] at hon
        have HN2 := Lib.hid (HN.out.not Hs.out hne (by rw [HB.out]; exact hon))
        have HB2 := Lib.hid (show (b.set o v).length = nv by rw [List.length_set, HB.out])
        obtain ⟨z, hz⟩ : ∃ z, b[o]? = some z := ⟨_, List.getElem?_eq_getElem (by rw [HB.out]; exact hon)⟩
        have cb2 := Own.cellAt (HS.out.get (A := O 1 57 (.slice (some ⟨gb, 0, none⟩) nv cb) nv (u16s b)) (by simp [NP])) (u16s_get hz)
        have HS2 := Lib.hid (SS.storeO (L := [B p 106 [.slice (some ⟨g, 0, none⟩) n c], O 1 57 (.slice (some ⟨g, 0, none⟩) n c) n (u16s zs)]) (R := []) HS.out o (by simp [HB.out]; exact hon) (.int .u16 (v : Int)))
        rw [u16s_set] at HS2
        have i3 : ¬ (v : Int) = (y : Int) := by omega
        clear hy hzy hne hz
        go_wp2_with fail
        go_roundw
        case rel => exact ⟨v + 1, k, o + 1, b.set o v, by go_num, rfl, by go_num, by omega, by omega, by omega, HN2, HB2, HS2⟩
        case measure => simp only [intOf]; omega
    · have Hve := Lib.hid (show v < e → k = j from fun h1 => by omega)
      have hways : (v < e ∧ (v : Int) < (e : Int) ∧ ¬ (k : Int) ≤ J) ∨ (¬ v < e ∧ ¬ (v : Int) < (e : Int) ∧ True) := by
        have := HJ.out
        rcases Nat.lt_or_ge v e with h1 | h1
        · exact .inl ⟨h1, by omega, by omega⟩
        · exact .inr ⟨by omega, by omega, trivial⟩
      clear hc
      rcases hways with ⟨w1, w2, w3⟩ | ⟨w1, w2, w3⟩
      all_goals
        clear w1
        go_wp2_with fail
        clear w2 w3
        go_loopw [12, 14] (fun s12 s14 wx => ∃ (v o : Nat) (b : List Nat), s12 = .int .i64 (o : Int) ∧ s14 = .int .i64 (v : Int) ∧ v ≤ e ∧ s ≤ v ∧ Hid (v < e → k = j) ∧ Hid (NG l s v k o b) ∧ Hid (b.length = nv) ∧ Hid (SS w F wx (NP p g c n gb cb nv zs b))) (fun _ s14 _ => e - (intOf s14).toNat)
        case atStart => exact ⟨v, o, b, rfl, rfl, hv, hsv, Hve, HN, HB, HS⟩
        case round =>
          clear HN HS HB Hve hv hsv
          obtain ⟨v, o, b, rfl, rfl, hv, hsv, Hve, HN, HB, HS⟩ := hrel
          by_cases hv2 : v < e
          · have i1 : (v : Int) < (e : Int) := by omega
            have q1 : IntKind.u16.wrap (v : Int) = (v : Int) := IntWalk.u16_in _ (by omega)
            have hkj := Hve.out hv2
            have hne : l[k]? ≠ some v := HN.out.past Hs.out hv2 (by rw [← Hj.out]; omega)
            have hon := HN.out.room Hs.out hne hv2 (by rw [HB.out, Hnv.out, HC.out])
            rw [HB.out] at hon
            have HN2 := Lib.hid (HN.out.not Hs.out hne (by rw [HB.out]; exact hon))
            have HB2 := Lib.hid (show (b.set o v).length = nv by rw [List.length_set, HB.out])
            have HV2 := Lib.hid (show v + 1 < e → k = j from fun _ => hkj)
            obtain ⟨z, hz⟩ : ∃ z, b[o]? = some z := ⟨_, List.getElem?_eq_getElem (by rw [HB.out]; exact hon)⟩
            have cb2 := Own.cellAt (HS.out.get (A := O 1 57 (.slice (some ⟨gb, 0, none⟩) nv cb) nv (u16s b)) (by simp [NP])) (u16s_get hz)
            have HS2 := Lib.hid (SS.storeO (L := [B p 106 [.slice (some ⟨g, 0, none⟩) n c], O 1 57 (.slice (some ⟨g, 0, none⟩) n c) n (u16s zs)]) (R := []) HS.out o (by simp [HB.out]; exact hon) (.int .u16 (v : Int)))
            rw [u16s_set] at HS2
            clear hne hz hkj
            go_wp2_with fail
            go_roundw
            case rel => exact ⟨v + 1, o + 1, b.set o v, by go_num, by go_num, by omega, by omega, HV2, HN2, HB2, HS2⟩
            case measure => simp only [intOf]; omega
          · have hve : v = e := by omega
            subst hve
            have i1 : ¬ (v : Int) < (v : Int) := by omega
            obtain ⟨f1, f2⟩ := HN.out.fin (by rw [HB.out, Hnv.out, HC.out])
            rw [← HC.out] at f2
            subst f2
            rw [HB.out] at f1
            subst f1
            have HS1 := Lib.hid (show SS w F _ (NP p g c n gb cb o (over zs i b 0) b) from by rw [over_zero]; exact HS.out)
            clear HS HN
            go_wp2_with fail
            go_loopw [67] (fun s67 wy => ∃ r : Nat, s67 = .int .i64 (r : Int) ∧ r ≤ o ∧ Hid (SS w F wy (NP p g c n gb cb o (over zs i b r) b))) (fun s67 _ => o - (intOf s67).toNat)
            case atStart => exact ⟨0, rfl, Nat.zero_le _, HS1⟩
            case round =>
              clear HS1
              obtain ⟨r, rfl, hr, HS⟩ := hrel
              by_cases hr2 : r < o
              · have i1 : (r : Int) < (o : Int) := by omega
                obtain ⟨y, hy⟩ : ∃ y, b[r]? = some y := ⟨_, List.getElem?_eq_getElem (by rw [HB.out]; exact hr2)⟩
                have hol : (over zs i b r).length = n := by rw [over_len (by rw [HB.out]; omega) (by rw [HB.out, Hz.out]; exact hin), Hz.out]
                obtain ⟨z, hz⟩ : ∃ z, (over zs i b r)[i + r]? = some z := ⟨_, List.getElem?_eq_getElem (by rw [hol]; omega)⟩
                have f0 := HS.out.cell 0 rfl 0 rfl
                have c1 := Own.cellAt (HS.out.get (A := O 1 57 (.slice (some ⟨gb, 0, none⟩) o cb) o (u16s b)) (by simp [NP])) (u16s_get hy)
                have c2 := Own.cellAt (HS.out.get (A := O 1 57 (.slice (some ⟨g, 0, none⟩) n c) n (u16s (over zs i b r))) (by simp [NP])) (u16s_get hz)
                rw [Nat.add_comm i r] at c2
                have HS2 := Lib.hid (SS.storeO (L := [B p 106 [.slice (some ⟨g, 0, none⟩) n c]]) (R := [O 1 57 (.slice (some ⟨gb, 0, none⟩) o cb) o (u16s b)]) HS.out (i + r) (by simp [hol]; omega) (.int .u16 (y : Int)))
                rw [u16s_set, over_set hy (by rw [HB.out, Hz.out]; exact hin), Nat.add_comm i r] at HS2
                have q1 : IntKind.i64.wrap ((r : Int) + (i : Int)) = ((r + i : Nat) : Int) := (IntWalk.i64_in _ (by omega)).trans (by omega)
                clear hy hz hol
                go_wp2_with fail
                go_roundw
                case rel => exact ⟨r + 1, by go_num, by omega, HS2⟩
                case measure => simp only [intOf]; omega
              · obtain rfl : r = o := by omega
                have i1 : ¬ (r : Int) < (r : Int) := by omega
                go_wp2_with fail
                go_end0
                exact ⟨rfl, HS.out⟩
end Go.Proofs

namespace Go.Roar
open Go.RowKit Go.Proofs
/-- The first k numbers of l, zeros behind them, N in all. -/
def cpy (l : List Nat) (k N : Nat) : List Nat := l.take k ++ List.replicate (N - k) 0
theorem cpy_zero (l : List Nat) (N : Nat) : cpy l 0 N = List.replicate N 0 := by simp [cpy]
theorem cpy_all {l : List Nat} {k : Nat} (h : l.length = k) (N : Nat) : cpy l k N = l ++ List.replicate (N - k) 0 := by
  unfold cpy
  rw [List.take_of_length_le (by omega)]
theorem cpy_len {l : List Nat} {k N : Nat} (hk : k ≤ l.length) (hN : k ≤ N) : (cpy l k N).length = N := by
  unfold cpy
  rw [List.length_append, List.length_take, List.length_replicate]
  omega
theorem cpy_set {l : List Nat} {k N x : Nat} (hx : l[k]? = some x) (hN : k < N) : (cpy l k N).set k x = cpy l (k + 1) N := by
  obtain ⟨hk, rfl⟩ := List.getElem?_eq_some_iff.1 hx
  unfold cpy
  obtain ⟨d, hd⟩ : ∃ d, N - k = d + 1 := ⟨N - k - 1, by omega⟩
  have hl : (l.take k).length = k := by rw [List.length_take]; omega
  rw [List.set_append_right _ _ (by omega), hl, Nat.sub_self, hd, List.replicate_succ, List.set_cons_zero, show N - (k + 1) = d by omega, show l.take (k + 1) = l.take k ++ [l[k]] by rw [List.take_add_one, List.getElem?_eq_getElem hk]; rfl, List.append_assoc]
  rfl
end Go.Roar
namespace Go.Proofs
open Go.RowKit Go.Roar
attribute [local go_sem ↓] Go.wp_at_zero Go.wp_at_succ

theorem made_u16 (N : Nat) : (madeCells (Value.int IntKind.u16 (0 : Int)).cells (N * 1)).toList = u16s (List.replicate N 0) := by
  rw [Nat.mul_one]
  have h1 := made_all (.int .u16 0) N rfl
  have h2 := made_length (.int .u16 0) N
  have : (madeCells #[.int .u16 0] N).toList = List.replicate N (.int .u16 0) := List.eq_replicate_iff.2 ⟨h2, h1⟩
  have e : (Value.int IntKind.u16 (0 : Int)).cells = #[.int .u16 0] := rfl
  rw [e, this]; simp [u16s]

set_option maxRecDepth 100000 in
set_option maxHeartbeats 2000000 in
theorem copyOf_any (g c n N : Nat) (l : List Nat) (w : World) (hO : Own w 1 57 (.slice (some ⟨g, 0, none⟩) n c) n (u16s l)) (hn : l.length = n) (hN : n ≤ N) (hN2 : N ≤ 65536) :
    Calls Tryz.prog 158 #[.slice (some ⟨g, 0, none⟩) n c, .int .i64 (N : Int)] w fun ed w' => ∃ g2, ed = .returned (.slice (some ⟨g2, 0, none⟩) N N) ∧ SS w [] w' [O 1 57 (.slice (some ⟨g2, 0, none⟩) N N) N (u16s (l ++ List.replicate (N - n) 0))] := by
  obtain ⟨iU, u1, u2, u3, u4⟩ := info_parts infoU16
  have HO := Lib.hid (fun (k x : Nat) (hx : l[k]? = some x) => (Own.cellAt hO (u16s_get hx)).1)
  have Hn := Lib.hid hn
  clear hO hn
  go_enter Tryz.func158, Tryz.ntmps158
  go_wp2_with (first
    | (at_make; refine wpList_make_ss rfl (.tmp 8) (.tmp 8) 59 rfl 57 iU (.int .u16 0) 1 undU16s u1 u2 u3 w [] [] (SS.nothing w) .i64 .i64 _ _ N rfl rfl rfl rfl (by rw [u4]; omega) (by unfold maxLen; omega) ?_; rw [made_u16]; intro g2 w2 S2; have HS0 := Lib.hid S2; clear S2)
    | fail)
  go_loopw [12] (fun i wr => ∃ k : Nat, i = .int .i64 (k : Int) ∧ k ≤ n ∧ Hid (SS w [] wr [O 1 57 (.slice (some ⟨g2, 0, none⟩) N N) N (u16s (cpy l k N))])) (fun i _ => n - (intOf i).toNat)
  case atStart => exact ⟨0, rfl, Nat.zero_le _, Lib.hid (by rw [cpy_zero]; exact HS0.out)⟩
  case round =>
    clear HS0
    obtain ⟨k, rfl, hk, HS⟩ := hrel
    by_cases hk2 : k < n
    · obtain ⟨x, hx⟩ : ∃ x, l[k]? = some x := ⟨_, List.getElem?_eq_getElem (by rw [Hn.out]; exact hk2)⟩
      have hl := cpy_len (l := l) (k := k) (N := N) (by rw [Hn.out]; omega) (by omega)
      obtain ⟨z, hz⟩ : ∃ z, (cpy l k N)[k]? = some z := ⟨_, List.getElem?_eq_getElem (by rw [hl]; omega)⟩
      have c1 := (SS.mild HS.out).cell2 id (HO.out k x hx)
      have c2 := Own.cellAt (HS.out.get (A := O 1 57 (.slice (some ⟨g2, 0, none⟩) N N) N (u16s (cpy l k N))) (by simp)) (u16s_get hz)
      have HS2 := Lib.hid (SS.storeO (L := []) (R := []) HS.out k (by simp [hl]; omega) (.int .u16 (x : Int)))
      rw [u16s_set, cpy_set hx (by omega)] at HS2
      have i1 : (k : Int) < (n : Int) := by omega
      have i2 : ¬ (k : Int) = (N : Int) := by omega
      have i3 : ((k : Int) == (N : Int)) = false := by rw [beq_eq_false_iff_ne]; omega
      have i4 : (k : Int) < (N : Int) := by omega
      clear hx hz hl
      go_wp2_with fail
      go_roundw
      case rel => exact ⟨k + 1, by go_num, by omega, HS2⟩
      case measure => simp only [intOf]; omega
    · obtain rfl : k = n := by omega
      have i1 : ¬ (k : Int) < (k : Int) := by omega
      go_wp2_with fail
      go_ret
      refine ⟨g2, rfl, ?_⟩
      rw [← cpy_all Hn.out N]
      exact HS.out
end Go.Proofs
