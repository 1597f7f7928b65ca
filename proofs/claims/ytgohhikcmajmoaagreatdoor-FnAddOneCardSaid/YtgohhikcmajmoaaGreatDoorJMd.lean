/-
  impl.made: the set of spans.
  roaring.Or of a set and the empty set.
  impl.fits: lists that have not too many numbers.
  impl.told of a set in memory; laws.three, impl.Or on a small set, laws.some.
-/
import Derived.Test.YtgohhikcmajmoaaGreatDoorKRop
import Derived.Test.YtgohhikcmajmoaaGreatDoorJWh
import Derived.Test.YtgohhikcmajmoaaGreatDoorJAp
import Derived.WalkMore
namespace Go.Proofs
open Go.RowKit Go.Roar

theorem new_any (w : World) : Calls Tryz.prog 17 #[] w fun e w' => e = .returned (.pointer (some ⟨w.heap.size, 0, none⟩)) ∧ w' = w.alloc (.cells #[.slice none 0 0, .slice none 0 0, .slice none 0 0, .bool false] 59) := by
  go_enter Tryz.func17, Tryz.ntmps17
  go_wp2
  go_ret
  exact ⟨rfl, rfl⟩
theorem bmOpt_any (p : Nat) (t : TypeId) (vk vc vw : Value) (q : List Kon) (w : World) (ok : OKP (psOf q)) (few : FewRuns (psOf q) 1000) (hT : Tab w) (h : Parts w (BMP p t vk vc vw q)) (hTF : 0 ∉ foot (BMP p t vk vc vw q)) :
    Calls Tryz.prog 19 #[.pointer (some ⟨p, 0, none⟩)] w fun ed w' => ed = .returned (.tuple #[]) ∧ ∃ q', SS w (foot (BMP p t vk vc vw q)) w' (BMP p t vk vc vw q') ∧ psOf q' = psOf q ∧ ∀ x ∈ q', x.k = kindOf x.l := by
  have C := Lib.hid (raOpt_any p t vk vc vw q w ok few hT h hTF)
  clear ok few hT h hTF
  go_enter Tryz.func19, Tryz.ntmps19
  go_wp2_with (first
    | (go_at_call 31; refine C.out.mono ?_; rintro ed w1 ⟨rfl, q', h1, h2, h3⟩)
    | fail)
  go_end0
  exact ⟨rfl, q', h1, h2, h3⟩
end Go.Proofs
namespace Go.Roar
open Go.RowKit Go.Proofs
/-- Where 'made' stands behind the first k spans. -/
structure MS (w0 wr : World) (p : Nat) (rs : List (Nat × Nat)) (k : Nat) (vk vc vw : Value) (q : List Kon) : Prop where
  ss : SS w0 [] wr (BMP p 59 vk vc vw q)
  ok : OKP (psOf q)
  few : FewRuns (psOf q) k
  nums : ∀ x, x ∈ allN (psOf q) ↔ inR (rs.take k) x
theorem MS.skip {w0 wr : World} {p : Nat} {rs : List (Nat × Nat)} {k : Nat} {vk vc vw : Value} {q : List Kon} (m : MS w0 wr p rs k vk vc vw q) {r : Nat × Nat} (hr : rs[k]? = some r) (h : r.2 < r.1) : MS w0 wr p rs (k + 1) vk vc vw q := by
  refine ⟨m.ss, m.ok, fun p hp => Nat.le_succ_of_le (m.few p hp), fun x => ?_⟩
  rw [m.nums, show rs.take (k + 1) = rs.take k ++ [r] by rw [List.take_add_one, hr]; rfl, inR_append, inR_one]
  exact ⟨.inl, fun h' => h'.elim id (fun h' => by omega)⟩
theorem MS.add {w0 wr w' : World} {p : Nat} {rs : List (Nat × Nat)} {k : Nat} {vk vc vw vk' vc' vw' : Value} {q q' : List Kon} (m : MS w0 wr p rs k vk vc vw q) {r : Nat × Nat} (hr : rs[k]? = some r)
    (h : SS wr (foot (BMP p 59 vk vc vw q)) w' (BMP p 59 vk' vc' vw' q')) (ok : OKP (psOf q')) (few : FewRuns (psOf q') (k + 1)) (nums : ∀ x, x ∈ allN (psOf q') ↔ x ∈ allN (psOf q) ∨ (r.1 ≤ x ∧ x < r.2 + 1)) : MS w0 w' p rs (k + 1) vk' vc' vw' q' := by
  refine ⟨m.ss.on h, ok, few, fun x => ?_⟩
  rw [nums, m.nums, show rs.take (k + 1) = rs.take k ++ [r] by rw [List.take_add_one, hr]; rfl, inR_append, inR_one]
  exact or_congr Iff.rfl ⟨fun h => ⟨h.1, by omega⟩, fun h => ⟨h.1, by omega⟩⟩
end Go.Roar
namespace Go.Proofs
open Go.RowKit Go.Roar
/-- What 'made' makes. -/
def MadePost (rs : List (Nat × Nat)) (opt : Bool) (w : World) (ed : Ending) (w' : World) : Prop :=
  ∃ p vk vc vw q, ed = .returned (.pointer (some ⟨p, 0, none⟩)) ∧ SS w [] w' (BMP p 59 vk vc vw q) ∧ OKP (psOf q) ∧ FewRuns (psOf q) rs.length ∧ (∀ x, x ∈ allN (psOf q) ↔ inR rs x) ∧ (opt = true → ∀ x ∈ q, x.k = kindOf x.l)

set_option maxRecDepth 100000 in
set_option maxHeartbeats 4000000 in
theorem implMade_any (u : Value) (rs : List (Nat × Nat)) (opt : Bool) (w : World) (hu : SG w u rs) (hb : ∀ r ∈ rs, r.1 < 4294967296 ∧ r.2 < 4294967296) (hl : rs.length ≤ 1000) (hT : Tab w) (hTs : 0 < w.heap.size) :
    Calls Tryz.prog 12 #[u, .bool opt] w fun e w' => MadePost rs opt w e w' := by
  obtain ⟨A, c, rfl, hu⟩ := hu
  have S0 : SS w [] (w.alloc (.cells #[.slice none 0 0, .slice none 0 0, .slice none 0 0, .bool false] 59)) (BMP w.heap.size 59 (.slice none 0 0) (.slice none 0 0) (.slice none 0 0) []) := by
    have := (((((SS.bare w 1 4).join (SS.bare w 1 62)).join (SS.bare w 1 51)))).new 59 [.slice none 0 0, .slice none 0 0, .slice none 0 0, .bool false]
    exact this
  have HM0 : Hid (MS w (w.alloc (.cells #[.slice none 0 0, .slice none 0 0, .slice none 0 0, .bool false] 59)) w.heap.size rs 0 (.slice none 0 0) (.slice none 0 0) (.slice none 0 0) []) := Lib.hid ⟨S0, OKP.nil, fun p hp => absurd hp (List.not_mem_nil), fun x => by simp [allN, psOf, inR]⟩
  have Hu := Lib.hid hu
  have Hb := Lib.hid hb
  have HT := Lib.hid hT
  clear S0 hu hb hT
  generalize hn : rs.length = n at *
  have Hn := Lib.hid hn
  clear hn
  unfold MadePost
  rw [Hn.out]
  go_enter Tryz.func12, Tryz.ntmps12
  go_wp2_with (first
    | (go_at_call 17; refine (new_any _).mono ?_; rintro ed w1 ⟨rfl, rfl⟩)
    | fail)
  generalize (w.alloc (Obj.cells #[Value.slice none 0 0, Value.slice none 0 0, Value.slice none 0 0, Value.bool false] 59)) = W0 at *
  generalize hH : w.heap.size = H at *
  have HH := Lib.hid hH
  clear hH
  go_loopw [11] (fun i wr => ∃ (k : Nat) (vk vc vw : Value) (q : List Kon), i = .int .i64 (k : Int) ∧ k ≤ n ∧ Hid (MS w wr H rs k vk vc vw q)) (fun i _ => n - (intOf i).toNat)
  case atStart => exact ⟨0, _, _, _, _, rfl, Nat.zero_le _, HM0⟩
  case round =>
    clear HM0
    obtain ⟨k, vk, vc, vw, q, rfl, hk, HM⟩ := hrel
    have km := HM.out.ss.mild
    by_cases hlt : k < n
    · obtain ⟨r, hx⟩ : ∃ r, rs[k]? = some r := ⟨_, List.getElem?_eq_getElem (by rw [Hn.out]; omega)⟩
      obtain ⟨a, rfl, a1, a2⟩ := Hu.out k r hx
      have b1 := km.cell2 id a1
      have b2 := km.cell2 id a2
      have hrb := Hb.out r (List.mem_of_getElem? hx)
      rw [show a.add (k * 2 + 1) = ⟨(a.add (k * 2)).block, (a.add (k * 2)).off + 1, none⟩ by rw [← Addr.add_add]; exact (Addr.add_succ' _ 0)] at b2
      have Hx := Lib.hid hx
      have i0 : (k : Int) < (n : Int) := by omega
      clear hx km a1 a2
      by_cases hc : r.1 ≤ r.2
      · have HM2 : Hid (MS w (wr.alloc (.cells #[.int .u32 (r.1 : Int), .int .u32 (r.2 : Int)] 38)) H rs k vk vc vw q) := Lib.hid ⟨HM.out.ss.alloc _, HM.out.ok, HM.out.few, HM.out.nums⟩
        have AR1 := addRange_any H 59 vk vc vw q k r.1 (r.2 + 1) _ (by omega) (by omega) HM2.out.ok HM2.out.few HM2.out.ss.sep
        rw [show ((r.2 + 1 : Nat) : Int) = (r.2 : Int) + 1 by omega] at AR1
        have HAR := Lib.hid AR1
        clear AR1
        have i1 : (r.1 : Int) ≤ (r.2 : Int) := by omega
        go_wp2_with (first
          | (go_at_call 18; (with_reducible refine HAR.out.mono ?_); rintro ed w2 ⟨rfl, vk2, vc2, vw2, q2, s1, s2, s3, s4⟩; have HM3 := Lib.hid (HM2.out.add Hx.out s1 s2 s3 s4); clear s1 s2 s3 s4)
          | fail)
        go_roundw
        case rel => exact ⟨k + 1, vk2, vc2, vw2, q2, by go_num, by omega, HM3⟩
        case measure => simp only [intOf]; omega
      · have i1 : ¬ (r.1 : Int) ≤ (r.2 : Int) := by omega
        have HM3 : Hid (MS w (wr.alloc (.cells #[.int .u32 (r.1 : Int), .int .u32 (r.2 : Int)] 38)) H rs (k + 1) vk vc vw q) := Lib.hid (MS.skip ⟨HM.out.ss.alloc _, HM.out.ok, HM.out.few, HM.out.nums⟩ Hx.out (by omega))
        go_wp2
        go_roundw
        case rel => exact ⟨k + 1, vk, vc, vw, q, by go_num, by omega, HM3⟩
        case measure => simp only [intOf]; omega
    · obtain rfl : k = n := by omega
      have hnums := HM.out.nums
      rw [← Hn.out, List.take_length] at hnums
      have Hnums := Lib.hid hnums
      clear hnums
      cases opt
      · go_wp2
        go_ret
        exact ⟨H, vk, vc, vw, q, rfl, HM.out.ss, HM.out.ok, HM.out.few, Hnums.out, fun h => by cases h⟩
      · have hTW : Tab wr := fun i hi => km.cell2 id (HT.out i hi)
        have hTF : 0 ∉ foot (BMP H 59 vk vc vw q) := fun h => by
          rcases HM.out.ss.sub _ h with h | h
          · cases h
          · have := HH.out; omega
        have BO := Lib.hid (bmOpt_any H 59 vk vc vw q wr HM.out.ok (fun p hp => Nat.le_trans (HM.out.few p hp) hl) hTW HM.out.ss.sep hTF)
        clear hTW hTF
        go_wp2_with (first
          | (go_at_call 19; (with_reducible refine BO.out.mono ?_); rintro ed w2 ⟨rfl, q2, s1, s2, s3⟩; have S2 := Lib.hid (HM.out.ss.on s1); have HQ := Lib.hid s2; have HK := Lib.hid s3; clear s1 s2 s3)
          | fail)
        go_ret
        first
        | exact ⟨H, rfl, vk, vc, vw, q2, S2.out, by rw [HQ.out]; exact HM.out.ok, by rw [HQ.out]; exact HM.out.few, by rw [HQ.out]; exact Hnums.out, HK.out⟩
        | exact ⟨H, rfl, vk, vc, vw, q2, S2.out, by rw [HQ.out]; exact HM.out.ok, by rw [HQ.out]; exact HM.out.few, by rw [HQ.out]; exact Hnums.out, fun _ => HK.out⟩
end Go.Proofs

namespace Go.Proofs
open Go.RowKit Go.Roar
theorem newBm_any (w : World) : Calls Tryz.prog 37 #[] w fun e w' => e = .returned (.pointer (some ⟨w.heap.size, 0, none⟩)) ∧ w' = w.alloc (.cells #[.slice none 0 0, .slice none 0 0, .slice none 0 0, .bool false] 59) := by
  go_enter Tryz.func37, Tryz.ntmps37
  go_wp2
  go_ret
  exact ⟨rfl, rfl⟩

set_option maxRecDepth 100000 in
set_option maxHeartbeats 4000000 in
theorem orEmpty_any (p1 p2 : Nat) (t1 : TypeId) (vk1 vc1 vw1 : Value) (q1 : List Kon) (w : World) (h1 : q1.length ≤ 65536) (h0 : 0 < q1.length) (h : Parts w (BMP p1 t1 vk1 vc1 vw1 q1)) (G2 : Option Addr) (c2' : Nat) (h2 : w.cell? ⟨p2, 0, none⟩ = some (.slice G2 0 c2')) :
    Calls Tryz.prog 29 #[.pointer (some ⟨p1, 0, none⟩), .pointer (some ⟨p2, 0, none⟩)] w fun e w' => ∃ p vk vc vw q', e = .returned (.pointer (some ⟨p, 0, none⟩)) ∧
      SS w (foot (BMP p1 t1 vk1 vc1 vw1 q1)) w' (BMP p 59 vk vc vw q') ∧ q'.map kon3 = q1.map kon3 := by
  have hra := RA.of (Parts.left h)
  obtain ⟨Gk, ck, hvk, _⟩ := hra.keys.sliceOf
  rw [List.length_map] at hvk
  have S0 : SS w (foot (BMP p1 t1 vk1 vc1 vw1 q1)) (w.alloc (.cells #[.slice none 0 0, .slice none 0 0, .slice none 0 0, .bool false] 59)) (BMP w.heap.size 59 (.slice none 0 0) (.slice none 0 0) (.slice none 0 0) [] ++ BMP p1 t1 vk1 vc1 vw1 q1) := by
    have := (((((SS.init h).join (SS.bare w 1 4)).join (SS.bare w 1 62)).join (SS.bare w 1 51))).new 59 [.slice none 0 0, .slice none 0 0, .slice none 0 0, .bool false]
    exact this
  have m1 : Mild w (w.alloc (.cells #[.slice none 0 0, .slice none 0 0, .slice none 0 0, .bool false] 59)) := (Kept.refl _ _).alloc _
  have b0 := m1.cell2 id h2
  have hra1 := RA.of (Parts.left (S0.right.sep))
  have c0 := hra1.k
  have c1 := hra1.c
  have c2 := hra1.w
  obtain ⟨tt, hblk⟩ := hra1.blk
  have c3 := hblk.cell 3
  simp only [List.getElem?_cons_zero, List.getElem?_cons_succ] at c3
  have AM0 := (appendMany_any w.heap.size p1 59 t1 (.slice none 0 0) (.slice none 0 0) (.slice none 0 0) vk1 vc1 vw1 [] q1 0 _ (Nat.zero_le _) h1 (by simpa using h1) S0.drew.sep)
  rw [show ((0 : Nat) : Int) = 0 from rfl] at AM0
  have AM := Lib.hid AM0
  clear AM0
  have HS0 := Lib.hid S0
  rw [hvk] at c0 AM HS0 ⊢
  clear S0 hra hra1 hblk h
  generalize hn : q1.length = n at *
  clear hn
  have n0 : ((0 : Int) == (n : Int)) = false := by rw [beq_eq_false_iff_ne]; omega
  have n1 : ¬ (0 : Int) = (n : Int) := by omega
  go_enter Tryz.func29, Tryz.ntmps29
  go_wp2_with fail
  go_step3
  go_wp2_with (first
    | (go_at_call 37; refine (newBm_any _).mono ?_; rintro ed w1 ⟨rfl, rfl⟩)
    | (go_at_call 38; first | (refine (raSize_any p1 _ n ck _ c0).mono ?_; rintro ed w1 ⟨rfl, rfl⟩) | (refine (raSize_any p2 G2 0 c2' _ b0).mono ?_; rintro ed w1 ⟨rfl, rfl⟩))
    | fail)
  generalize (w.alloc (Obj.cells #[Value.slice none 0 0, Value.slice none 0 0, Value.slice none 0 0, Value.bool false] 59)) = W0 at *
  generalize w.heap.size = H at *
  go_step3
  go_wp2_with fail
  go_loopw [6, 7] (fun i j wr => i = .int .i64 0 ∧ j = .int .i64 0 ∧ W0 = wr) (fun _ _ _ => 0)
  case atStart => exact ⟨rfl, rfl, rfl⟩
  case round =>
    obtain ⟨rfl, rfl, rfl⟩ := hrel
    go_wp2_with (first
      | (refine wp_region_tail 9 (by kernel_rfl) (by decide +kernel) ?_; simp only [List.take_succ_cons, List.take_zero, List.drop_succ_cons, List.drop_zero]; repeat still_step; try (refine wpStill_nil ?_; show wpList _ _ _ _ _ _))
      | (go_at_call 43; (with_reducible refine AM.out.mono ?_); rintro ed w5 ⟨rfl, vk5, vc5, vw5, q5, hS5, hq5⟩; have HS5 := Lib.hid hS5; have HQ5 := Lib.hid hq5; clear hS5 hq5)
      | fail)
    rw [Exit.noGoto_ret]
    go_ret
    exact ⟨H, vk5, vc5, vw5, q5, rfl, SS.left (HS0.out.drew.on HS5.out), by rw [HQ5.out]; simp⟩
end Go.Proofs

namespace Go.Roar
open Go.RowKit Go.Proofs
/-- Lists of spans in a slice of their own, none with more than 400000 numbers. -/
def FG (w : World) (g : Nat) (ls : List (Value × List (Nat × Nat))) : Prop :=
  ∀ (i : Nat) (x : Value × List (Nat × Nat)), ls[i]? = some x → w.cell? ⟨g, i, none⟩ = some x.1 ∧ SG w x.1 x.2 ∧ (∀ r ∈ x.2, r.1 < 4294967296 ∧ r.2 < 4294967296) ∧ rgCard (keep x.2) ≤ 400000 ∧ x.2.length ≤ 1000000
theorem SG.mild {w w' : World} {v : Value} {rs : List (Nat × Nat)} (h : SG w v rs) (k : Mild w w') : SG w' v rs := by
  obtain ⟨A, c, rfl, h⟩ := h
  refine ⟨A, c, rfl, fun i r hr => ?_⟩
  obtain ⟨a, rfl, h1, h2⟩ := h i r hr
  exact ⟨a, rfl, k.cell2 id h1, k.cell2 id h2⟩
theorem keep_card {l : List (Nat × Nat)} {k : Nat} {r : Nat × Nat} (h : l[k]? = some r) : rgCard (keep (l.take (k + 1))) = rgCard (keep (l.take k)) + (if r.1 ≤ r.2 then r.2 - r.1 + 1 else 0) := by
  rw [keep_take h]
  split
  · rw [rgCard_append, rgCard_cons]; simp [rgCard]
  · simp
theorem keep_le (l : List (Nat × Nat)) (k : Nat) : rgCard (keep (l.take k)) ≤ rgCard (keep l) := by
  have e : keep l = keep (l.take k) ++ keep (l.drop k) := by
    unfold keep
    rw [← List.filter_append, List.take_append_drop]
  rw [e, rgCard_append]
  omega
end Go.Roar
namespace Go.Proofs
open Go.RowKit Go.Roar

set_option maxRecDepth 100000 in
set_option maxHeartbeats 4000000 in
theorem fits_any (g m c : Nat) (ls : List (Value × List (Nat × Nat))) (w : World) (hm : ls.length = m) (hm2 : m ≤ 100) (h : FG w g ls) :
    Calls Tryz.prog 11 #[.slice (some ⟨g, 0, none⟩) m c] w fun e w' => e = .returned (.bool true) ∧ Mild w w' := by
  have H := Lib.hid h
  have Hm := Lib.hid hm
  clear h hm
  go_enter Tryz.func11, Tryz.ntmps11
  go_wp2
  go_loopw [10] (fun i wr => ∃ k : Nat, i = .int .i64 (k : Int) ∧ k ≤ m ∧ Hid (Mild w wr)) (fun i _ => m - (intOf i).toNat)
  case atStart => exact ⟨0, rfl, Nat.zero_le _, Lib.hid (Kept.refl _ _)⟩
  case round =>
    obtain ⟨k, rfl, hk, HM⟩ := hrel
    by_cases hlt : k < m
    · obtain ⟨x, hx⟩ : ∃ x, ls[k]? = some x := ⟨_, List.getElem?_eq_getElem (by rw [Hm.out]; exact hlt)⟩
      obtain ⟨h1, h2, h3, h4, h5⟩ := H.out k x hx
      obtain ⟨A, d, hv, h2⟩ := Go.Roar.SG.mild h2 HM.out
      have c1 := HM.out.cell2 id h1
      rw [hv] at c1
      obtain ⟨u, rs⟩ := x
      dsimp only at h2 h3 h4 h5 hv c1
      have Hu := Lib.hid h2
      have Hb := Lib.hid h3
      have Hc := Lib.hid h4
      clear h1 h2 h3 h4 hx hv
      generalize hn : rs.length = n at *
      have Hn := Lib.hid hn
      clear hn
      have i0 : (k : Int) < (m : Int) := by omega
      go_wp2_with fail
      go_loopw [16, 5] (fun i z wx => ∃ j c : Nat, i = .int .i64 (j : Int) ∧ z = .int .u64 (c : Int) ∧ j ≤ n ∧ c ≤ 400000 ∧ Hid (c = rgCard (keep (rs.take j))) ∧ Hid (Mild wr wx)) (fun i _ _ => n - (intOf i).toNat)
      case atStart => exact ⟨0, 0, rfl, rfl, Nat.zero_le _, by omega, Lib.hid (by simp [keep, rgCard]), Lib.hid (Kept.refl _ _)⟩
      case round =>
        obtain ⟨j, cc, rfl, rfl, hj, hcc, Hcc, HM2⟩ := hrel
        by_cases hlt2 : j < n
        · obtain ⟨r, hr⟩ : ∃ r, rs[j]? = some r := ⟨_, List.getElem?_eq_getElem (by rw [Hn.out]; exact hlt2)⟩
          obtain ⟨a, rfl, a1, a2⟩ := Hu.out j r hr
          have b1 := HM2.out.cell2 id a1
          have b2 := HM2.out.cell2 id a2
          have hrb := Hb.out r (List.mem_of_getElem? hr)
          rw [show a.add (j * 2 + 1) = ⟨(a.add (j * 2)).block, (a.add (j * 2)).off + 1, none⟩ by rw [← Addr.add_add]; exact (Addr.add_succ' _ 0)] at b2
          have hst := keep_card hr
          have hle := keep_le rs (j + 1)
          have hle2 := Hc.out
          rw [← Hcc.out] at hst
          have Hst := Lib.hid hst
          have i1 : (j : Int) < (n : Int) := by omega
          clear a1 a2 hr
          by_cases hc : r.1 ≤ r.2
          · rw [if_pos hc] at hst
            have i2 : (r.1 : Int) ≤ (r.2 : Int) := by omega
            have i3 : ¬ (400000 : Int) < (cc : Int) + ((r.2 : Int) - r.1 + 1) := by omega
            have hcb : cc + (r.2 - r.1 + 1) ≤ 400000 := by omega
            clear hst hle hle2
            go_wp2
            go_roundw
            case rel => exact ⟨j + 1, cc + (r.2 - r.1 + 1), by go_num, int_eq (by omega), by omega, hcb, Lib.hid (by rw [Hst.out, if_pos hc]), Lib.hid (by first | exact HM2.out.alloc _ | exact HM2.out)⟩
            case measure => simp only [intOf]; omega
          · rw [if_neg hc] at hst
            have i2 : ¬ (r.1 : Int) ≤ (r.2 : Int) := by omega
            have i3 : ¬ (400000 : Int) < (cc : Int) := by omega
            clear hst hle hle2
            go_wp2
            go_roundw
            case rel => exact ⟨j + 1, cc, by go_num, rfl, by omega, hcc, Lib.hid (by rw [Hst.out, if_neg hc]; rfl), Lib.hid (by first | exact HM2.out.alloc _ | exact HM2.out)⟩
            case measure => simp only [intOf]; omega
        · go_wp2
          go_roundw
          case rel => exact ⟨k + 1, by go_num, by omega, Lib.hid (HM.out.trans HM2.out)⟩
          case measure => simp only [intOf]; omega
    · go_wp2
      go_ret
      exact ⟨rfl, HM.out⟩
end Go.Proofs

namespace Go.Roar
open Go.RowKit Go.Proofs
theorem SS.clear {w0 w : World} {L : List HA} (h : SS w0 [] w L) {b : Nat} (hb : b < w0.heap.size) : b ∉ foot L := fun hm => by
  rcases h.sub b hm with h | h
  · cases h
  · omega
theorem BMP.len {q : List Kon} (ok : OKP (psOf q)) : q.length ≤ 65536 := by
  have := ok.length
  rwa [psOf_length] at this
theorem allN_empty {q : List Kon} (ok : OKP (psOf q)) (h : ∀ x, ¬ x ∈ allN (psOf q)) : q = [] := by
  rcases q with _ | ⟨x, q⟩
  · rfl
  · exfalso
    have hx := ok.2 (x.key, x.l) (by simp [psOf])
    obtain ⟨y, hy⟩ : ∃ y, y ∈ x.l := List.exists_mem_of_ne_nil _ hx.2.2.2
    have hy2 := hx.2.2.1 y hy
    exact h (x.key * 65536 + y) ((allN_mem (fun p hp => (ok.2 p hp).2.2.1) _).2 ⟨(x.key, x.l), by simp [psOf], by dsimp only; omega, by dsimp only; rw [show (x.key * 65536 + y) % 65536 = y by omega]; exact hy⟩)
end Go.Roar
namespace Go.Proofs
open Go.RowKit Go.Roar
theorem toldB_any (p : Nat) (t : TypeId) (vk vc vw : Value) (q : List Kon) (s : List (Nat × Nat)) (w : World) (ok : OKP (psOf q)) (h : Parts w (BMP p t vk vc vw q)) (hT : Tab w) (hTs : 0 < w.heap.size) (hs : RgOK 4294967296 s) (he : allN (psOf q) = rgNums s) (hc : rgCard s ≤ 1000000) :
    Calls Tryz.prog 14 #[.pointer (some ⟨p, 0, none⟩)] w fun e w' => ∃ v, e = .returned v ∧ Own w' 2 38 v s.length (rgCells s) ∧ Mild w w' ∧ (∀ b ∈ blkOf v, w.heap.size ≤ b) := by
  have hW := whole_of (H := w.heap.size) h ok hT hTs h.lt
  have hn := allN_sorted ok
  have hl := allN_lt ok
  have hlen : (nums (psOf q)).length ≤ 1000000 := by rw [nums_allN, he, rgNums_length]; exact hc
  have := told_any p (psOf q) w hW (by rw [nums_allN]; exact hn) (by rw [nums_allN]; exact hl) hlen
  rw [nums_allN, he, tell_back hs] at this
  exact this
theorem three_any (w : World) : Calls Tryz.prog 16 #[] w fun e w' => e = .returned (.slice (some ⟨w.heap.size, 0, none⟩) 1 1) ∧ w' = w.alloc (.cells #[.int .u32 1, .int .u32 3] 38) := by
  go_enter Tryz.func16, Tryz.ntmps16
  go_wp2
  go_ret
  exact ⟨rfl, rfl⟩

theorem or_prep {w1 w3 w4 : World} {p1 p2 : Nat} {t1 t2 : TypeId} {vk1 vc1 vw1 vk2 vc2 vw2 : Value} {q1 : List Kon} (h1 : SS w1 [] w3 (BMP p1 t1 vk1 vc1 vw1 q1)) (hn : ∀ x, x ∈ allN (psOf q1) ↔ inR [(1, 3)] x) (h2 : SS w3 [] w4 (BMP p2 t2 vk2 vc2 vw2 [])) :
    Parts w4 (BMP p1 t1 vk1 vc1 vw1 q1) ∧ 0 < q1.length ∧ ∃ G2 c2, w4.cell? ⟨p2, 0, none⟩ = some (.slice G2 0 c2) := by
  refine ⟨h1.sep.kept h2.mild (fun _ _ => id), ?_, ?_⟩
  · rcases q1 with _ | ⟨x, q1⟩
    · have := (hn 1).2 ⟨(1, 3), by simp, by decide, by decide⟩
      simp [allN, psOf] at this
    · simp
  · have hra := RA.of (Parts.left h2.sep)
    obtain ⟨G2, c2, hv2, _⟩ := hra.keys.sliceOf
    exact ⟨G2, c2, by rw [hra.k, hv2]; rfl⟩

theorem or_told {w w1 w3 w4 w5 : World} {p1 p2 p : Nat} {t1 t2 t : TypeId} {vk1 vc1 vw1 vk2 vc2 vw2 vk vc vw : Value} {q1 q' : List Kon} (hT : Tab w) (hTs : 0 < w.heap.size) (m : Mild w w1) (h1 : SS w1 [] w3 (BMP p1 t1 vk1 vc1 vw1 q1)) (ok : OKP (psOf q1)) (hn : ∀ x, x ∈ allN (psOf q1) ↔ inR [(1, 3)] x) (h2 : SS w3 [] w4 (BMP p2 t2 vk2 vc2 vw2 []))
    (h3 : SS w4 (foot (BMP p1 t1 vk1 vc1 vw1 q1)) w5 (BMP p t vk vc vw q')) (hk : q'.map kon3 = q1.map kon3) :
    Calls Tryz.prog 14 #[.pointer (some ⟨p, 0, none⟩)] w5 fun e w' => ∃ A c, e = .returned (.slice A 1 c) ∧ Mild w w' := by
  have hps := kon3_ps hk
  have z1 := m.size
  have z3 := h1.mild.size
  have z4 := h2.mild.size
  have hTF := h1.clear (Nat.lt_of_lt_of_le hTs z1)
  have m4 : Mild w w4 := m.trans (h1.mild.trans h2.mild)
  have hT5 : Tab w5 := fun i hi => h3.kept.cell2 hTF (m4.cell2 id (hT i hi))
  have m5 : Mild w w5 := Kept.then (S' := (· ∈ foot (BMP p1 t1 vk1 vc1 vw1 q1))) m4 h3.kept (fun k hk hx => absurd hx (h1.clear (Nat.lt_of_lt_of_le hk z1)))
  have hr : RgOK 4294967296 [(1, 3)] := ⟨by intro r hr; simp at hr; subst hr; exact ⟨by decide, by decide⟩, by simp⟩
  have he : allN (psOf q1) = rgNums [(1, 3)] := allN_only ok hr hn (fun x => by rw [rgNums_mem (fun r hr' => (hr.1 r hr').1)]; rfl)
  have := toldB_any p t vk vc vw q' [(1, 3)] w5 (by rw [hps]; exact ok) h3.sep hT5 (Nat.lt_of_lt_of_le hTs m5.size) hr (by rw [hps]; exact he) (by simp [rgCard])
  refine this.mono ?_
  rintro ed w6 ⟨v, rfl, ho, hm, _⟩
  obtain ⟨A, c, hv⟩ := ho.form
  rw [hv]
  exact ⟨A, c, rfl, m5.trans hm⟩

set_option maxRecDepth 100000 in
set_option maxHeartbeats 4000000 in
theorem orSmall_any (g : Nat) (w : World) (h : Blk w g 38 [.int .u32 1, .int .u32 3]) (hT : Tab w) (hTs : 0 < w.heap.size) :
    Calls Tryz.prog 15 #[.slice (some ⟨g, 0, none⟩) 1 1, .slice none 0 0, .int .i64 0] w fun e w' => ∃ A c, e = .returned (.slice A 1 c) ∧ Mild w w' := by
  have hr : RgOK 4294967296 [(1, 3)] := ⟨by intro r hr; simp at hr; subst hr; exact ⟨by decide, by decide⟩, by simp⟩
  have hu : SG w (.slice (some ⟨g, 0, none⟩) 1 1) [(1, 3)] := ⟨some ⟨g, 0, none⟩, 1, rfl, fun i r hi => by
    rcases i with _ | i
    · simp at hi; subst hi
      exact ⟨⟨g, 0, none⟩, rfl, h.cell 0, h.cell 1⟩
    · simp at hi⟩
  have hn : SG w (.slice none 0 0) [] := ⟨none, 0, rfl, fun i r hi => by simp at hi⟩
  have m1 : Mild w (w.alloc (.cells #[.slice (some ⟨g, 0, none⟩) 1 1, .slice none 0 0] 22)) := (Kept.refl _ _).alloc _
  have hB := Blk.new w 22 [.slice (some ⟨g, 0, none⟩) 1 1, .slice none 0 0]
  have FT := Lib.hid (fits_any w.heap.size 2 2 [(.slice (some ⟨g, 0, none⟩) 1 1, [(1, 3)]), (.slice none 0 0, [])] (w.alloc (.cells #[.slice (some ⟨g, 0, none⟩) 1 1, .slice none 0 0] 22)) rfl (by decide) (fun i x hi => by
    rcases i with _ | _ | i
    · simp at hi; subst hi
      exact ⟨hB.cell 0, Go.Roar.SG.mild hu m1, by intro r hr; simp at hr; subst hr; exact ⟨by decide, by decide⟩, by simp [keep, rgCard], by simp⟩
    · simp at hi; subst hi
      exact ⟨hB.cell 1, Go.Roar.SG.mild hn m1, by intro r hr; simp at hr, by simp [keep, rgCard], by simp⟩
    · simp at hi))
  have M1 := Lib.hid m1
  have Hu := Lib.hid hu
  have Hnl := Lib.hid hn
  have HT := Lib.hid hT
  have Hr := Lib.hid hr
  clear m1 hB hu hn hT hr h
  have k0 : bits .and .i64 0 1 = 0 := by decide
  have k1 : bits .and .i64 0 2 = 0 := by decide
  have IM := Lib.hid (fun (W : World) (k : Mild w W) => implMade_any (.slice (some ⟨g, 0, none⟩) 1 1) [(1, 3)] false W (Go.Roar.SG.mild Hu.out k) (by intro r hr; simp at hr; subst hr; exact ⟨by decide, by decide⟩) (by simp) (fun i hi => k.cell2 id (HT.out i hi)) (Nat.lt_of_lt_of_le hTs k.size))
  have IN := Lib.hid (fun (W : World) (k : Mild w W) => implMade_any (.slice none 0 0) [] false W (Go.Roar.SG.mild Hnl.out k) (by intro r hr; simp at hr) (by simp) (fun i hi => k.cell2 id (HT.out i hi)) (Nat.lt_of_lt_of_le hTs k.size))
  go_enter Tryz.func15, Tryz.ntmps15
  go_wp2_with (first
    | (go_at_call 11; refine FT.out.mono ?_; rintro ed w1 ⟨rfl, hm⟩; have M2 := Lib.hid (M1.out.trans hm); clear hm)
    | (go_at_call 12; (with_reducible refine (IM.out _ M2.out).mono ?_); rintro ed w3 ⟨p1, vk1, vc1, vw1, q1, rfl, s1, o1, -, n1, -⟩; have HS1 := Lib.hid s1; have HO1 := Lib.hid o1; have HN1 := Lib.hid n1; have M3 := Lib.hid (M2.out.trans s1.mild); clear s1 o1 n1)
    | (go_at_call 12; (with_reducible refine (IN.out _ M3.out).mono ?_); rintro ed w4 ⟨p2, vk2, vc2, vw2, q2, rfl, s2, o2, -, n2, -⟩; obtain rfl := allN_empty o2 (fun x hx => inR_nil x ((n2 x).1 hx)); have HS2 := Lib.hid s2; have M4 := Lib.hid (M3.out.trans s2.mild); clear s2 o2 n2)
    | (go_at_call 29; obtain ⟨hP1, hq1, G2, c2, hv2⟩ := or_prep HS1.out HN1.out HS2.out; (with_reducible refine (orEmpty_any p1 p2 _ vk1 vc1 vw1 q1 w4 (BMP.len HO1.out) hq1 hP1 G2 c2 hv2).mono ?_); rintro ed w5 ⟨p, vk, vc, vw, q', rfl, s3, k3⟩; have HS3 := Lib.hid s3; have HK3 := Lib.hid k3; clear s3 k3 hP1 hq1 hv2; have TD := Lib.hid (or_told HT.out hTs M2.out HS1.out HO1.out HN1.out HS2.out HS3.out HK3.out))
    | (go_at_call 14; (with_reducible refine TD.out.mono ?_); rintro ed w6 ⟨A, c, rfl, hm⟩)
    | fail)
  go_ret
  exact ⟨A, c, rfl, hm⟩

set_option maxRecDepth 100000 in
set_option maxHeartbeats 1000000 in
theorem some_any (w : World) (hT : Tab w) (hTs : 0 < w.heap.size) :
    Calls Tryz.prog 9 #[] w fun e w' => e = .returned (.bool true) ∧ Mild w w' := by
  have m1 : Mild w (w.alloc (.cells #[.int .u32 1, .int .u32 3] 38)) := (Kept.refl _ _).alloc _
  have OS := Lib.hid (orSmall_any w.heap.size _ (Blk.new w 38 [.int .u32 1, .int .u32 3]) (fun i hi => m1.cell2 id (hT i hi)) (Nat.lt_of_lt_of_le hTs m1.size))
  have M1 := Lib.hid m1
  clear m1 hT
  go_enter Tryz.func9, Tryz.ntmps9
  go_wp2_with (first
    | (go_at_call 16; refine (three_any _).mono ?_; rintro ed w1 ⟨rfl, rfl⟩)
    | (go_at_call 15; (with_reducible refine OS.out.mono ?_); rintro ed w2 ⟨A, c, rfl, hm⟩; have M2 := Lib.hid (M1.out.trans hm); clear hm)
    | fail)
  go_ret
  exact ⟨rfl, M2.out⟩
end Go.Proofs
