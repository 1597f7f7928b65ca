/-
  impl.made: the set of spans.
  impl.fits: lists that have not too many numbers.
  Small facts on a set in memory.
  The spans that a law is handed; impl.made, impl.fits on them.
-/
import Derived.Test.YtjjijipfhnoomaaGreatDoorKRop
import Derived.Test.YtjjijipfhnoomaaGreatDoorJWh
namespace Go.Proofs
open Go.RowKit Go.Roar

theorem newM_any (w : World) : Calls Tryz.prog 26 #[] w fun e w' => e = .returned (.pointer (some ⟨w.heap.size, 0, none⟩)) ∧ w' = w.alloc (.cells #[.slice none 0 0, .slice none 0 0, .slice none 0 0, .bool false] 65) := by
  go_enter Tryz.func26, Tryz.ntmps26
  go_wp2
  go_ret
  exact ⟨rfl, rfl⟩
theorem bmOpt_any (p : Nat) (t : TypeId) (vk vc vw : Value) (q : List Kon) (w : World) (ok : OKP (psOf q)) (few : FewRuns (psOf q) 1000) (hT : Tab w) (h : Parts w (BMP p t vk vc vw q)) (hTF : 0 ∉ foot (BMP p t vk vc vw q)) :
    Calls Tryz.prog 27 #[.pointer (some ⟨p, 0, none⟩)] w fun ed w' => ed = .returned (.tuple #[]) ∧ ∃ q', SS w (foot (BMP p t vk vc vw q)) w' (BMP p t vk vc vw q') ∧ psOf q' = psOf q ∧ ∀ x ∈ q', x.k = kindOf x.l := by
  have C := Lib.hid (raOpt_any p t vk vc vw q w ok few hT h hTF)
  clear ok few hT h hTF
  go_enter Tryz.func27, Tryz.ntmps27
  go_wp2_with (first
    | (go_at_call 42; refine C.out.mono ?_; rintro ed w1 ⟨rfl, q', h1, h2, h3⟩)
    | fail)
  go_end0
  exact ⟨rfl, q', h1, h2, h3⟩
end Go.Proofs
namespace Go.Roar
open Go.RowKit Go.Proofs
/-- Whether the first of the ranges that touches the container of key h makes it one of runs. -/
def F2 (rs : List (Nat × Nat)) (h : Nat) : Bool := match rs.find? (fun r => decide (r.1 ≤ r.2 ∧ r.1 / 65536 ≤ h ∧ h ≤ r.2 / 65536)) with
  | some r => kindOf (List.range' (csOf r.1 h) (clOf (r.2 + 1) h + 1 - csOf r.1 h)) == 2
  | none => false
theorem F2_skip {rs : List (Nat × Nat)} {r : Nat × Nat} (hr : r.2 < r.1) (h : Nat) : F2 (rs ++ [r]) h = F2 rs h := by
  unfold F2
  rw [List.find?_append, List.find?_cons_of_neg (by simp; omega), List.find?_nil, Option.or_none]
theorem F2_old {rs : List (Nat × Nat)} (r : Nat × Nat) {h : Nat} (ht : ∃ u ∈ rs, u.1 ≤ u.2 ∧ u.1 / 65536 ≤ h ∧ h ≤ u.2 / 65536) : F2 (rs ++ [r]) h = F2 rs h := by
  unfold F2
  rw [List.find?_append]
  cases hf : rs.find? (fun r => decide (r.1 ≤ r.2 ∧ r.1 / 65536 ≤ h ∧ h ≤ r.2 / 65536)) with
  | some u => rfl
  | none =>
    obtain ⟨u, hu, hx⟩ := ht
    have := List.find?_eq_none.1 hf u hu
    exact absurd (decide_eq_true hx) this
theorem F2_new {rs : List (Nat × Nat)} {r : Nat × Nat} {h : Nat} (ht : ∀ u ∈ rs, ¬ (u.1 ≤ u.2 ∧ u.1 / 65536 ≤ h ∧ h ≤ u.2 / 65536)) (hr : r.1 ≤ r.2 ∧ r.1 / 65536 ≤ h ∧ h ≤ r.2 / 65536) :
    F2 (rs ++ [r]) h = (kindOf (List.range' (csOf r.1 h) (clOf (r.2 + 1) h + 1 - csOf r.1 h)) == 2) := by
  unfold F2
  rw [List.find?_append, List.find?_eq_none.2 (fun u hu => by simpa using fun a b => Nat.lt_of_not_le (fun c => ht u hu ⟨a, b, c⟩)), Option.none_or, List.find?_cons_of_pos (p := fun r => decide (r.1 ≤ r.2 ∧ r.1 / 65536 ≤ h ∧ h ≤ r.2 / 65536)) (a := r) (by exact decide_eq_true hr)]
/-- Which keys a set has, told by the ranges. -/
theorem key_touch {q : List Kon} {rs : List (Nat × Nat)} (ok : OKP (psOf q)) (nums : ∀ x, x ∈ allN (psOf q) ↔ inR rs x) (h : Nat) : (∃ z ∈ q, z.key = h) ↔ ∃ u ∈ rs, u.1 ≤ u.2 ∧ u.1 / 65536 ≤ h ∧ h ≤ u.2 / 65536 := by
  constructor
  · rintro ⟨z, hz, rfl⟩
    obtain ⟨h1, h2, h3, h4⟩ := ok.2 (z.key, z.l) (List.mem_map.2 ⟨z, hz, rfl⟩)
    obtain ⟨y, hy⟩ := List.exists_mem_of_ne_nil _ h4
    have hyb := h3 y hy
    have hm : z.key * 65536 + y ∈ allN (psOf q) := List.mem_flatMap.2 ⟨(z.key, z.l), List.mem_map.2 ⟨z, hz, rfl⟩, List.mem_map.2 ⟨y, hy, rfl⟩⟩
    obtain ⟨u, hu, ha, hb⟩ := (nums _).1 hm
    exact ⟨u, hu, by omega, by omega, by omega⟩
  · rintro ⟨u, hu, h1, h2, h3⟩
    have hm := (nums (max u.1 (h * 65536))).2 ⟨u, hu, by omega, by omega⟩
    obtain ⟨pr, hp, hx⟩ := List.mem_flatMap.1 hm
    obtain ⟨z, hz, rfl⟩ := List.mem_map.1 hp
    obtain ⟨y, hy, e⟩ := List.mem_map.1 hx
    have hyb := (ok.2 (z.key, z.l) hp).2.2.1 y hy
    have e : z.key * 65536 + y = max u.1 (h * 65536) := e
    have hyb : y < 65536 := hyb
    exact ⟨z, hz, by omega⟩
/-- Where 'made' stands behind the first k spans. -/
structure MS (w0 wr : World) (p : Nat) (rs : List (Nat × Nat)) (k : Nat) (vk vc vw : Value) (q : List Kon) : Prop where
  ss : SS w0 [] wr (BMP p 65 vk vc vw q)
  ok : OKP (psOf q)
  few : FewRuns (psOf q) k
  nums : ∀ x, x ∈ allN (psOf q) ↔ inR (rs.take k) x
  kinds : ∀ x ∈ q, x.k = 2 ↔ F2 (rs.take k) x.key = true
theorem MS.skip {w0 wr : World} {p : Nat} {rs : List (Nat × Nat)} {k : Nat} {vk vc vw : Value} {q : List Kon} (m : MS w0 wr p rs k vk vc vw q) {r : Nat × Nat} (hr : rs[k]? = some r) (h : r.2 < r.1) : MS w0 wr p rs (k + 1) vk vc vw q := by
  have e : rs.take (k + 1) = rs.take k ++ [r] := by rw [List.take_add_one, hr]; rfl
  refine ⟨m.ss, m.ok, fun p hp => Nat.le_succ_of_le (m.few p hp), fun x => ?_, fun x hx => ?_⟩
  · rw [m.nums, e, inR_append, inR_one]
    exact ⟨.inl, fun h' => h'.elim id (fun h' => by omega)⟩
  · rw [e, F2_skip h]; exact m.kinds x hx
theorem MS.add {w0 wr w' : World} {p : Nat} {rs : List (Nat × Nat)} {k : Nat} {vk vc vw vk' vc' vw' : Value} {q q' : List Kon} (m : MS w0 wr p rs k vk vc vw q) {r : Nat × Nat} (hr : rs[k]? = some r)
    (h : SS wr (foot (BMP p 65 vk vc vw q)) w' (BMP p 65 vk' vc' vw' q')) (ok : OKP (psOf q')) (few : FewRuns (psOf q') (k + 1)) (nums : ∀ x, x ∈ allN (psOf q') ↔ x ∈ allN (psOf q) ∨ (r.1 ≤ x ∧ x < r.2 + 1)) (kar : KAR q q' r.1 (r.2 + 1)) (hle : r.1 ≤ r.2) : MS w0 w' p rs (k + 1) vk' vc' vw' q' := by
  have e : rs.take (k + 1) = rs.take k ++ [r] := by rw [List.take_add_one, hr]; rfl
  refine ⟨m.ss.on h, ok, few, fun x => ?_, fun x hx => ?_⟩
  · rw [nums, m.nums, e, inR_append, inR_one]
    exact or_congr Iff.rfl ⟨fun h => ⟨h.1, by omega⟩, fun h => ⟨h.1, by omega⟩⟩
  · have kt := key_touch m.ok m.nums x.key
    rw [e]
    rcases kar x hx with ⟨u, h1, h2, h3⟩ | ⟨h1, h2, h3, h4⟩
    · rw [h3, m.kinds u h1, h2, F2_old r (kt.1 ⟨u, h1, h2⟩)]
    · rw [h2, F2_new (fun u hu hc => by obtain ⟨z, hz, e2⟩ := kt.2 ⟨u, hu, hc⟩; exact h1 z hz e2) ⟨hle, h3, h4⟩]
      simp
end Go.Roar
namespace Go.Proofs
open Go.RowKit Go.Roar
/-- What 'made' makes. -/
def MadePost (rs : List (Nat × Nat)) (opt : Bool) (w : World) (ed : Ending) (w' : World) : Prop :=
  ∃ p vk vc vw q, ed = .returned (.pointer (some ⟨p, 0, none⟩)) ∧ SS w [] w' (BMP p 65 vk vc vw q) ∧ OKP (psOf q) ∧ FewRuns (psOf q) rs.length ∧ (∀ x, x ∈ allN (psOf q) ↔ inR rs x) ∧ (opt = true → ∀ x ∈ q, x.k = kindOf x.l) ∧ (opt = false → ∀ x ∈ q, x.k = 2 ↔ F2 rs x.key = true)

set_option maxRecDepth 100000 in
set_option maxHeartbeats 4000000 in
theorem implMade_any (u : Value) (rs : List (Nat × Nat)) (opt : Bool) (w : World) (hu : SG w u rs) (hb : ∀ r ∈ rs, r.1 < 4294967296 ∧ r.2 < 4294967296) (hl : rs.length ≤ 1000) (hT : Tab w) (hTs : 0 < w.heap.size) :
    Calls Tryz.prog 19 #[u, .bool opt] w fun e w' => MadePost rs opt w e w' := by
  obtain ⟨A, c, rfl, hu⟩ := hu
  have S0 : SS w [] (w.alloc (.cells #[.slice none 0 0, .slice none 0 0, .slice none 0 0, .bool false] 65)) (BMP w.heap.size 65 (.slice none 0 0) (.slice none 0 0) (.slice none 0 0) []) := by
    have := (((((SS.bare w 1 4).join (SS.bare w 1 68)).join (SS.bare w 1 57)))).new 65 [.slice none 0 0, .slice none 0 0, .slice none 0 0, .bool false]
    exact this
  have HM0 : Hid (MS w (w.alloc (.cells #[.slice none 0 0, .slice none 0 0, .slice none 0 0, .bool false] 65)) w.heap.size rs 0 (.slice none 0 0) (.slice none 0 0) (.slice none 0 0) []) := Lib.hid ⟨S0, OKP.nil, fun p hp => absurd hp (List.not_mem_nil), fun x => by simp [allN, psOf, inR], fun x hx => absurd hx List.not_mem_nil⟩
  have Hu := Lib.hid hu
  have Hb := Lib.hid hb
  have HT := Lib.hid hT
  clear S0 hu hb hT
  generalize hn : rs.length = n at *
  have Hn := Lib.hid hn
  clear hn
  unfold MadePost
  rw [Hn.out]
  go_enter Tryz.func19, Tryz.ntmps19
  go_wp2_with (first
    | (go_at_call 26; refine (newM_any _).mono ?_; rintro ed w1 ⟨rfl, rfl⟩)
    | fail)
  generalize (w.alloc (Obj.cells #[Value.slice none 0 0, Value.slice none 0 0, Value.slice none 0 0, Value.bool false] 65)) = W0 at *
  generalize hH : w.heap.size = H at *
  have HH := Lib.hid hH
  clear hH
  go_loopw [11] (fun i wr => ∃ (k : Nat) (vk vc vw : Value) (q : List Kon), i = .int .i64 (k : Int) ∧ k ≤ n ∧ Hid (MS w wr H rs k vk vc vw q)) (fun i _ => n - (intOf i).toNat)
  case atStart => exact ⟨0, _, _, _, _, rfl, Nat.zero_le _, HM0⟩
  case round =>
    clear HM0
    obtain ⟨k, vk, vc, vw, q, rfl, hk, HM⟩ := hrel
    have km := HM.out.ss.mild
    by_cases hlt : k < n
    · obtain ⟨r, hx⟩ : ∃ r, rs[k]? = some r := ⟨_, List.getElem?_eq_getElem (by rw [Hn.out]; omega)⟩
      obtain ⟨a, rfl, a1, a2⟩ := Hu.out k r hx
      have b1 := km.cell2 id a1
      have b2 := km.cell2 id a2
      have hrb := Hb.out r (List.mem_of_getElem? hx)
      rw [show a.add (k * 2 + 1) = ⟨(a.add (k * 2)).block, (a.add (k * 2)).off + 1, none⟩ by rw [← Addr.add_add]; exact (Addr.add_succ' _ 0)] at b2
      have Hx := Lib.hid hx
      have i0 : (k : Int) < (n : Int) := by omega
      clear hx km a1 a2
      by_cases hc : r.1 ≤ r.2
      · have HM2 : Hid (MS w (wr.alloc (.cells #[.int .u32 (r.1 : Int), .int .u32 (r.2 : Int)] 43)) H rs k vk vc vw q) := Lib.hid ⟨HM.out.ss.alloc _, HM.out.ok, HM.out.few, HM.out.nums, HM.out.kinds⟩
        have AR1 := addRange_any H 65 vk vc vw q k r.1 (r.2 + 1) _ (by omega) (by omega) HM2.out.ok HM2.out.few HM2.out.ss.sep
        rw [show ((r.2 + 1 : Nat) : Int) = (r.2 : Int) + 1 by omega] at AR1
        have HAR := Lib.hid AR1
        clear AR1
        have i1 : (r.1 : Int) ≤ (r.2 : Int) := by omega
        go_wp2_with (first
          | (go_at_call 20; (with_reducible refine HAR.out.mono ?_); rintro ed w2 ⟨rfl, vk2, vc2, vw2, q2, s1, s2, s3, s4, s5⟩; have HM3 := Lib.hid (HM2.out.add Hx.out s1 s2 s3 s4 s5 hc); clear s1 s2 s3 s4 s5)
          | fail)
        go_roundw
        case rel => exact ⟨k + 1, vk2, vc2, vw2, q2, by go_num, by omega, HM3⟩
        case measure => simp only [intOf]; omega
      · have i1 : ¬ (r.1 : Int) ≤ (r.2 : Int) := by omega
        have HM3 : Hid (MS w (wr.alloc (.cells #[.int .u32 (r.1 : Int), .int .u32 (r.2 : Int)] 43)) H rs (k + 1) vk vc vw q) := Lib.hid (MS.skip ⟨HM.out.ss.alloc _, HM.out.ok, HM.out.few, HM.out.nums, HM.out.kinds⟩ Hx.out (by omega))
        go_wp2
        go_roundw
        case rel => exact ⟨k + 1, vk, vc, vw, q, by go_num, by omega, HM3⟩
        case measure => simp only [intOf]; omega
    · obtain rfl : k = n := by omega
      have hnums := HM.out.nums
      rw [← Hn.out, List.take_length] at hnums
      have Hnums := Lib.hid hnums
      have hkinds := HM.out.kinds
      rw [← Hn.out, List.take_length] at hkinds
      have Hkinds := Lib.hid hkinds
      clear hnums hkinds
      cases opt
      · go_wp2
        go_ret
        first
        | exact ⟨H, rfl, vk, vc, vw, q, HM.out.ss, HM.out.ok, HM.out.few, Hnums.out, Hkinds.out⟩
        | exact ⟨H, rfl, vk, vc, vw, q, HM.out.ss, HM.out.ok, HM.out.few, Hnums.out, (fun h => by cases h), (fun _ => Hkinds.out)⟩
        | exact ⟨H, vk, vc, vw, q, rfl, HM.out.ss, HM.out.ok, HM.out.few, Hnums.out, (fun h => by cases h), (fun _ => Hkinds.out)⟩
      · have hTW : Tab wr := fun i hi => km.cell2 id (HT.out i hi)
        have hTF : 0 ∉ foot (BMP H 65 vk vc vw q) := fun h => by
          rcases HM.out.ss.sub _ h with h | h
          · cases h
          · have := HH.out; omega
        have BO := Lib.hid (bmOpt_any H 65 vk vc vw q wr HM.out.ok (fun p hp => Nat.le_trans (HM.out.few p hp) hl) hTW HM.out.ss.sep hTF)
        clear hTW hTF
        go_wp2_with (first
          | (go_at_call 27; (with_reducible refine BO.out.mono ?_); rintro ed w2 ⟨rfl, q2, s1, s2, s3⟩; have S2 := Lib.hid (HM.out.ss.on s1); have HQ := Lib.hid s2; have HK := Lib.hid s3; clear s1 s2 s3)
          | fail)
        go_ret
        first
        | exact ⟨H, rfl, vk, vc, vw, q2, S2.out, by rw [HQ.out]; exact HM.out.ok, by rw [HQ.out]; exact HM.out.few, by rw [HQ.out]; exact Hnums.out, HK.out⟩
        | exact ⟨H, rfl, vk, vc, vw, q2, S2.out, by rw [HQ.out]; exact HM.out.ok, by rw [HQ.out]; exact HM.out.few, by rw [HQ.out]; exact Hnums.out, (fun _ => HK.out), (fun h => by cases h)⟩
end Go.Proofs

namespace Go.Roar
open Go.RowKit Go.Proofs
/-- Lists of spans in a slice of their own, none with more than 400000 numbers. -/
def FG (w : World) (g : Nat) (ls : List (Value × List (Nat × Nat))) : Prop :=
  ∀ (i : Nat) (x : Value × List (Nat × Nat)), ls[i]? = some x → w.cell? ⟨g, i, none⟩ = some x.1 ∧ SG w x.1 x.2 ∧ (∀ r ∈ x.2, r.1 < 4294967296 ∧ r.2 < 4294967296) ∧ rgCard (keep x.2) ≤ 400000 ∧ x.2.length ≤ 1000000
theorem SG.mild {w w' : World} {v : Value} {rs : List (Nat × Nat)} (h : SG w v rs) (k : Mild w w') : SG w' v rs := by
  obtain ⟨A, c, rfl, h⟩ := h
  refine ⟨A, c, rfl, fun i r hr => ?_⟩
  obtain ⟨a, rfl, h1, h2⟩ := h i r hr
  exact ⟨a, rfl, k.cell2 id h1, k.cell2 id h2⟩
theorem keep_card {l : List (Nat × Nat)} {k : Nat} {r : Nat × Nat} (h : l[k]? = some r) : rgCard (keep (l.take (k + 1))) = rgCard (keep (l.take k)) + (if r.1 ≤ r.2 then r.2 - r.1 + 1 else 0) := by
  rw [keep_take h]
  split
  · rw [rgCard_append, rgCard_cons]; simp [rgCard]
  · simp
theorem keep_le (l : List (Nat × Nat)) (k : Nat) : rgCard (keep (l.take k)) ≤ rgCard (keep l) := by
  have e : keep l = keep (l.take k) ++ keep (l.drop k) := by
    unfold keep
    rw [← List.filter_append, List.take_append_drop]
  rw [e, rgCard_append]
  omega
end Go.Roar
namespace Go.Proofs
open Go.RowKit Go.Roar

set_option maxRecDepth 100000 in
set_option maxHeartbeats 4000000 in
theorem fits_any (g m c : Nat) (ls : List (Value × List (Nat × Nat))) (w : World) (hm : ls.length = m) (hm2 : m ≤ 100) (h : FG w g ls) :
    Calls Tryz.prog 17 #[.slice (some ⟨g, 0, none⟩) m c] w fun e w' => e = .returned (.bool true) ∧ Mild w w' := by
  have H := Lib.hid h
  have Hm := Lib.hid hm
  clear h hm
  go_enter Tryz.func17, Tryz.ntmps17
  go_wp2
  go_loopw [10] (fun i wr => ∃ k : Nat, i = .int .i64 (k : Int) ∧ k ≤ m ∧ Hid (Mild w wr)) (fun i _ => m - (intOf i).toNat)
  case atStart => exact ⟨0, rfl, Nat.zero_le _, Lib.hid (Kept.refl _ _)⟩
  case round =>
    obtain ⟨k, rfl, hk, HM⟩ := hrel
    by_cases hlt : k < m
    · obtain ⟨x, hx⟩ : ∃ x, ls[k]? = some x := ⟨_, List.getElem?_eq_getElem (by rw [Hm.out]; exact hlt)⟩
      obtain ⟨h1, h2, h3, h4, h5⟩ := H.out k x hx
      obtain ⟨A, d, hv, h2⟩ := Go.Roar.SG.mild h2 HM.out
      have c1 := HM.out.cell2 id h1
      rw [hv] at c1
      obtain ⟨u, rs⟩ := x
      dsimp only at h2 h3 h4 h5 hv c1
      have Hu := Lib.hid h2
      have Hb := Lib.hid h3
      have Hc := Lib.hid h4
      clear h1 h2 h3 h4 hx hv
      generalize hn : rs.length = n at *
      have Hn := Lib.hid hn
      clear hn
      have i0 : (k : Int) < (m : Int) := by omega
      go_wp2_with fail
      go_loopw [16, 5] (fun i z wx => ∃ j c : Nat, i = .int .i64 (j : Int) ∧ z = .int .u64 (c : Int) ∧ j ≤ n ∧ c ≤ 400000 ∧ Hid (c = rgCard (keep (rs.take j))) ∧ Hid (Mild wr wx)) (fun i _ _ => n - (intOf i).toNat)
      case atStart => exact ⟨0, 0, rfl, rfl, Nat.zero_le _, by omega, Lib.hid (by simp [keep, rgCard]), Lib.hid (Kept.refl _ _)⟩
      case round =>
        obtain ⟨j, cc, rfl, rfl, hj, hcc, Hcc, HM2⟩ := hrel
        by_cases hlt2 : j < n
        · obtain ⟨r, hr⟩ : ∃ r, rs[j]? = some r := ⟨_, List.getElem?_eq_getElem (by rw [Hn.out]; exact hlt2)⟩
          obtain ⟨a, rfl, a1, a2⟩ := Hu.out j r hr
          have b1 := HM2.out.cell2 id a1
          have b2 := HM2.out.cell2 id a2
          have hrb := Hb.out r (List.mem_of_getElem? hr)
          rw [show a.add (j * 2 + 1) = ⟨(a.add (j * 2)).block, (a.add (j * 2)).off + 1, none⟩ by rw [← Addr.add_add]; exact (Addr.add_succ' _ 0)] at b2
          have hst := keep_card hr
          have hle := keep_le rs (j + 1)
          have hle2 := Hc.out
          rw [← Hcc.out] at hst
          have Hst := Lib.hid hst
          have i1 : (j : Int) < (n : Int) := by omega
          clear a1 a2 hr
          by_cases hc : r.1 ≤ r.2
          · rw [if_pos hc] at hst
            have i2 : (r.1 : Int) ≤ (r.2 : Int) := by omega
            have i3 : ¬ (400000 : Int) < (cc : Int) + ((r.2 : Int) - r.1 + 1) := by omega
            have hcb : cc + (r.2 - r.1 + 1) ≤ 400000 := by omega
            clear hst hle hle2
            go_wp2
            go_roundw
            case rel => exact ⟨j + 1, cc + (r.2 - r.1 + 1), by go_num, int_eq (by omega), by omega, hcb, Lib.hid (by rw [Hst.out, if_pos hc]), Lib.hid (by first | exact HM2.out.alloc _ | exact HM2.out)⟩
            case measure => simp only [intOf]; omega
          · rw [if_neg hc] at hst
            have i2 : ¬ (r.1 : Int) ≤ (r.2 : Int) := by omega
            have i3 : ¬ (400000 : Int) < (cc : Int) := by omega
            clear hst hle hle2
            go_wp2
            go_roundw
            case rel => exact ⟨j + 1, cc, by go_num, rfl, by omega, hcc, Lib.hid (by rw [Hst.out, if_neg hc]; rfl), Lib.hid (by first | exact HM2.out.alloc _ | exact HM2.out)⟩
            case measure => simp only [intOf]; omega
        · go_wp2
          go_roundw
          case rel => exact ⟨k + 1, by go_num, by omega, Lib.hid (HM.out.trans HM2.out)⟩
          case measure => simp only [intOf]; omega
    · go_wp2
      go_ret
      exact ⟨rfl, HM.out⟩
end Go.Proofs

namespace Go.Roar
open Go.RowKit Go.Proofs
theorem SS.clear {w0 w : World} {L : List HA} (h : SS w0 [] w L) {b : Nat} (hb : b < w0.heap.size) : b ∉ foot L := fun hm => by
  rcases h.sub b hm with h | h
  · cases h
  · omega
theorem BMP.len {q : List Kon} (ok : OKP (psOf q)) : q.length ≤ 65536 := by
  have := ok.length
  rwa [psOf_length] at this
theorem allN_empty {q : List Kon} (ok : OKP (psOf q)) (h : ∀ x, ¬ x ∈ allN (psOf q)) : q = [] := by
  rcases q with _ | ⟨x, q⟩
  · rfl
  · exfalso
    have hx := ok.2 (x.key, x.l) (by simp [psOf])
    obtain ⟨y, hy⟩ : ∃ y, y ∈ x.l := List.exists_mem_of_ne_nil _ hx.2.2.2
    have hy2 := hx.2.2.1 y hy
    exact h (x.key * 65536 + y) ((allN_mem (fun p hp => (ok.2 p hp).2.2.1) _).2 ⟨(x.key, x.l), by simp [psOf], by dsimp only; omega, by dsimp only; rw [show (x.key * 65536 + y) % 65536 = y by omega]; exact hy⟩)
end Go.Roar

namespace Go.Roar
open Go.RowKit Go.Proofs
/-- The kinds that take the fewest bytes. -/
def kindsOf (ps : List (Nat × List Nat)) : List Nat := ps.map fun p => kindOf p.2
theorem kinds_opt {q : List Kon} (h : ∀ x ∈ q, x.k = kindOf x.l) : q.map (·.k) = kindsOf (psOf q) := by
  unfold kindsOf psOf
  rw [List.map_map]
  exact List.map_congr_left h
/-- The spans that a law is handed, and the set that they are. -/
structure Spans (w : World) (u : Value) (rs s : List (Nat × Nat)) : Prop where
  sg : SG w u rs
  bnd : ∀ r ∈ rs, r.1 < 4294967296 ∧ r.2 < 4294967296
  len : rs.length ≤ 400
  card : rgCard (keep rs) ≤ 200000
  ok : RgOK 4294967296 s
  nums : ∀ x, x ∈ rgNums s ↔ inR rs x
  cs : rgCard s ≤ 200000
  tab : Tab w
  tabs : 0 < w.heap.size
theorem Spans.mild {w w' : World} {u : Value} {rs s : List (Nat × Nat)} (h : Spans w u rs s) (k : Mild w w') : Spans w' u rs s :=
  ⟨Go.Roar.SG.mild h.sg k, h.bnd, h.len, h.card, h.ok, h.nums, h.cs, fun i hi => k.cell2 id (h.tab i hi), Nat.lt_of_lt_of_le h.tabs k.size⟩
end Go.Roar
namespace Go.Proofs
open Go.RowKit Go.Roar
theorem made_of {w : World} {u : Value} {rs s : List (Nat × Nat)} (h : Spans w u rs s) (opt : Bool) :
    Calls Tryz.prog 19 #[u, .bool opt] w fun e w' => ∃ p vk vc vw q, e = .returned (.pointer (some ⟨p, 0, none⟩)) ∧ SS w [] w' (BMP p 65 vk vc vw q) ∧ OKP (psOf q) ∧ FewRuns (psOf q) 400 ∧ allN (psOf q) = rgNums s ∧ (opt = true → ∀ x ∈ q, x.k = kindOf x.l) ∧ (opt = false → ∀ x ∈ q, x.k = 2 ↔ F2 rs x.key = true) := by
  refine (implMade_any u rs opt w h.sg h.bnd (Nat.le_trans h.len (by decide)) h.tab h.tabs).mono ?_
  rintro e w' ⟨p, vk, vc, vw, q, rfl, s1, s2, s3, s4, s5⟩
  exact ⟨p, vk, vc, vw, q, rfl, s1, s2, fun x hx => Nat.le_trans (s3 x hx) h.len, allN_only s2 h.ok s4 h.nums, s5⟩
theorem fits_of {w w1 : World} {u : Value} {rs s : List (Nat × Nat)} (h : Spans w u rs s) (hw : w1 = w.alloc (.cells #[u] 22)) :
    Calls Tryz.prog 17 #[.slice (some ⟨w.heap.size, 0, none⟩) 1 1] w1 fun e w' => e = .returned (.bool true) ∧ Mild w w' := by
  subst hw
  have m1 : Mild w (w.alloc (.cells #[u] 22)) := (Kept.refl _ _).alloc _
  refine (fits_any w.heap.size 1 1 [(u, rs)] _ rfl (by decide) (fun i x hi => ?_)).mono ?_
  · rcases i with _ | i
    · simp at hi; subst hi
      exact ⟨(Blk.new w 22 [u]).cell 0, Go.Roar.SG.mild h.sg m1, h.bnd, Nat.le_trans h.card (by decide), Nat.le_trans h.len (by decide)⟩
    · simp at hi
  · rintro e w' ⟨rfl, hm⟩
    exact ⟨rfl, m1.trans hm⟩

end Go.Proofs
