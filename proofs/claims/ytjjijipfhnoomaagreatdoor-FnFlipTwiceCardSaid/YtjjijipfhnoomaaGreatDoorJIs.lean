/-
  laws.is.
  laws.set: the set of spans, if it is not too large.
-/
import Derived.Test.YtjjijipfhnoomaaGreatDoorJWh
import Derived.Deep.DeepCutAuto
namespace Go.Proofs
open Go.RowKit Go.Roar

set_option maxRecDepth 100000 in
set_option maxHeartbeats 1000000 in
theorem is_any (v u : Value) (rs : List (Nat × Nat)) (w : World) (hv : SV w v rs) (hu : RV w u rs) (hb : ∀ r ∈ rs, r.1 < 4294967296 ∧ r.2 < 4294967296) (hn : rs.length ≤ 1000000) :
    Calls Tryz.prog 8 #[v, u] w fun e w' => e = .returned (.bool true) ∧ Mild w w' := by
  obtain ⟨A, c, rfl, hv⟩ := hv
  obtain ⟨B, d, rfl, hu⟩ := hu
  have Hv := Lib.hid hv
  have Hu := Lib.hid hu
  have Hb := Lib.hid hb
  clear hv hu hb
  generalize hl : rs.length = n at *
  have Hl := Lib.hid hl
  clear hl
  go_enter Tryz.func8, Tryz.ntmps8
  go_wp2
  go_loopw [14] (fun i wr => ∃ k : Nat, i = .int .i64 k ∧ k ≤ n ∧ Hid (Mild w wr)) (fun i _ => n - (intOf i).toNat)
  case atStart => exact ⟨0, rfl, Nat.zero_le _, Lib.hid (Kept.refl _ _)⟩
  case round =>
    obtain ⟨k, rfl, hk, Hm⟩ := hrel
    by_cases hlt : k < n
    · obtain ⟨r, hx⟩ : ∃ r, rs[k]? = some r := ⟨_, List.getElem?_eq_getElem (by rw [Hl.out]; exact hlt)⟩
      obtain ⟨g, rfl, a1, a2⟩ := Hv.out k r hx
      obtain ⟨g', rfl, b1, b2⟩ := Hu.out k r hx
      obtain ⟨r1, r2⟩ := Hb.out r (List.mem_of_getElem? hx)
      have ca := Hm.out.cell2 id a1
      have cb := Hm.out.cell2 id a2
      have kA : Mild wr (wr.alloc (.cells #[.int .u32 (r.1 : Int), .int .u32 (r.2 : Int)] 43)) := (Kept.refl _ _).alloc _
      have da := kA.cell2 id (Hm.out.cell2 id b1)
      have db := kA.cell2 id (Hm.out.cell2 id b2)
      have i1 : (k : Int) < (n : Int) := by omega
      have u1 : IntKind.i64.wrap (r.1 : Int) = (r.1 : Int) := IntWalk.i64_in _ (by omega)
      have u2 : IntKind.i64.wrap (r.2 : Int) = (r.2 : Int) := IntWalk.i64_in _ (by omega)
      have HkA := Lib.hid (Hm.out.trans kA)
      have nb := Blk.new wr 43 [.int .u32 (r.1 : Int), .int .u32 (r.2 : Int)]
      have n0 := nb.cell 0
      have n1 := nb.cell 1
      simp only [List.getElem?_cons_zero, List.getElem?_cons_succ] at n0 n1
      clear a1 a2 b1 b2 hx kA nb
      go_wp2
      go_quiet (fail)
      go_wp2
      go_roundw
      case rel => exact ⟨k + 1, by go_num, by omega, Lib.hid (HkA.out.drewN _)⟩
      case measure => simp only [intOf]; omega
    · obtain rfl : k = n := by omega
      go_wp2
      go_ret
      exact ⟨rfl, Hm.out⟩
end Go.Proofs

namespace Go.Proofs
open Go.RowKit Go.Roar
theorem cell_two_at' (w : World) (x y : Value) (t : TypeId) (q : Nat) (hq : q = w.heap.size) : ∀ j u, [x, y][j]? = some u → (w.alloc (.cells #[x, y] t)).cell? ((⟨q, 0, none⟩ : Addr).add j) = some u := by
  subst hq; exact cell_two_new w x y t
theorem infoRange' : (Tryz.prog.info? 38).map (fun i => (i.zero, i.size, i.bytes)) = some (some (.agg #[.int .i64 0, .int .i64 0]), 2, 16) := by kernel_rfl
theorem undRanges' : Tryz.prog.underlying 24 = some (.slice 38) := by kernel_rfl

set_option maxRecDepth 100000 in
set_option maxHeartbeats 4000000 in
theorem set_any (made : MadeC) : SetC := by
  intro u rs w hu hb hl
  obtain ⟨iR, zz1, zz2, zz3, zz4⟩ := info_parts infoRange'
  have Made := Lib.hid made
  obtain ⟨B, d, rfl, hu⟩ := hu
  have Hu := Lib.hid hu
  have Hb := Lib.hid hb
  clear hu hb made
  generalize hln : rs.length = nr at *
  have Hl := Lib.hid hln
  clear hln
  have m0 : Mild w (w.alloc (.cells #[] 38)) := (Kept.refl _ _).alloc _
  have ow0 : Own (w.alloc (.cells #[] 38)) 2 38 (.slice (some ⟨w.heap.size, 0, none⟩) 0 0) 0 [] := ⟨rfl, .inr ⟨w.heap.size, 0, [], rfl, rfl, by unfold maxLen; omega, Blk.new w _ []⟩⟩
  have M0 := Lib.hid m0
  have W0 := Lib.hid ow0
  clear m0 ow0
  by_cases h4 : nr ≤ 400
  · have i4 : ¬ ((400 : Int) < (nr : Int)) := by omega
    go_enter Tryz.func6, Tryz.ntmps6
    go_wp2_with fail
    go_loopw [14, 4, 5] (fun i v x wr => ∃ k : Nat, i = .int .i64 k ∧ k ≤ nr ∧ x = .int .i64 (rgCard (keep (rs.take k)) : Nat) ∧ rgCard (keep (rs.take k)) ≤ 200000 ∧ Hid (Mild w wr) ∧ Hid (Own wr 2 38 v k (rcs (rs.take k))) ∧ Hid (∀ b ∈ blkOf v, w.heap.size ≤ b)) (fun i _ _ _ => nr - (intOf i).toNat)
    case atStart => exact ⟨0, rfl, Nat.zero_le _, rfl, Nat.zero_le _, M0, W0, Lib.hid (by simp)⟩
    case round =>
      obtain ⟨k, rfl, hk, rfl, hn, Hm, Ho, Hf⟩ := hrel
      by_cases hlt : k < nr
      · obtain ⟨r, hx⟩ : ∃ r, rs[k]? = some r := ⟨_, List.getElem?_eq_getElem (by rw [Hl.out]; exact hlt)⟩
        obtain ⟨a, rfl, a1, a2⟩ := Hu.out k r hx
        obtain ⟨r1, r2⟩ := Hb.out r (List.mem_of_getElem? hx)
        have ca := Hm.out.cell2 id a1
        have cb : wr.cell? ⟨(a.add (k * 2)).block, (a.add (k * 2)).off + 1, none⟩ = some (.int .u32 (r.2 : Int)) := by
          rw [show (⟨(a.add (k * 2)).block, (a.add (k * 2)).off + 1, none⟩ : Addr) = (a.add (k * 2)).add 1 from (Addr.add_succ' _ 0).symm, Addr.add_add]; exact Hm.out.cell2 id a2
        have i1 : (k : Int) < (nr : Int) := by omega
        have hkt := keep_take hx
        obtain ⟨A, c, rfl⟩ := Ho.out.form
        have Hoa := Lib.hid ((Ho.out.alloc (.cells #[.int .u32 (r.1 : Int), .int .u32 (r.2 : Int)] 43)))
        have hcs : rcs (rs.take k) ++ [.int .i64 (r.1 : Int), .int .i64 (r.2 : Int)] = rcs (rs.take (k + 1)) := by
          obtain ⟨hk', rfl⟩ := List.getElem?_eq_some_iff.1 hx
          rw [List.take_succ_eq_append_getElem hk', rcs_append]; rfl
        have Hcs := Lib.hid hcs
        clear a1 a2 hx hcs
        have w1 : IntKind.i64.wrap (r.1 : Int) = (r.1 : Int) := IntWalk.i64_in _ (by omega)
        have w2 : IntKind.i64.wrap (r.2 : Int) = (r.2 : Int) := IntWalk.i64_in _ (by omega)
        have kA : Mild wr ((wr.alloc (.cells #[.int .u32 (r.1 : Int), .int .u32 (r.2 : Int)] 43)).alloc (.cells #[.int .i64 (r.1 : Int), .int .i64 (r.2 : Int)] 38)) := ((Kept.refl _ _).alloc _).alloc _
        have KA := Lib.hid kA
        clear kA
        by_cases hc : r.1 ≤ r.2
        · rw [if_pos hc] at hkt
          have hct : rgCard (keep (rs.take (k + 1))) = rgCard (keep (rs.take k)) + (r.2 - r.1 + 1) := by rw [hkt, rgCard_append, rgCard_cons]; rfl
          have i2 : decide ((r.1 : Int) ≤ (r.2 : Int)) = true := by simp; omega
          generalize hT1 : rgCard (keep (rs.take (k + 1))) = T1 at *
          generalize rgCard (keep (rs.take k)) = T0 at *
          have HT1 := Lib.hid hT1
          clear hkt hT1
          obtain ⟨D, hD⟩ : ∃ D, D = r.2 - r.1 := ⟨_, rfl⟩
          have s1 : (r.2 : Int) - (r.1 : Int) = (D : Int) := by omega
          have s2 : D < 4294967296 := by omega
          rw [← hD] at hct
          have Hct := Lib.hid hct
          by_cases hover : T1 ≤ 200000
          · have i3 : decide ((200000 : Int) < (T0 : Int) + ((D : Int) + 1)) = false := by simp; omega
            clear hct hD
            go_wp2_with (first
              | (at_builtin; refine wpList_append_own_at _ rfl _ _ 24 rfl 0 38 iR (.agg #[.int .i64 0, .int .i64 0]) 2 16 undRanges' zz1 zz2 zz3 zz4 rfl (by decide) _ k (rcs (rs.take k)) rfl (Hoa.out.alloc _).toRow ⟨wr.heap.size + 1, 0, none⟩ 1 1 [.int .i64 (r.1 : Int), .int .i64 (r.2 : Int)] rfl rfl (cell_two_at' _ _ _ _ _ (by simp)) (by intro u hu; simp at hu; rcases hu with rfl | rfl <;> rfl) (by unfold maxLen; omega) (by omega) (Nat.zero_le _) ?_; intro v' w4 hown' hgrow hnil hat))
            have own4 := Own.ofRow hown'
            obtain ⟨kG, fG⟩ := grow_mild (v := .slice A k c) Hm.out KA.out hgrow Hf.out hat
            rw [Hcs.out] at own4
            have KG := Lib.hid kG
            have FG := Lib.hid fG
            have OG := Lib.hid own4
            clear kG fG own4 hown' hgrow hat hnil
            go_roundw
            case rel => exact ⟨k + 1, by go_num, by omega, by rw [HT1.out, Hct.out]; go_num, by rw [HT1.out]; exact hover, KG, OG, FG⟩
            case measure => simp only [intOf]; omega
          · have i3 : decide ((200000 : Int) < (T0 : Int) + ((D : Int) + 1)) = true := by simp; omega
            clear hct hD
            go_wp2_with fail
            go_ret2
            exact ⟨Hm.out.alloc _, .inl ⟨_, rfl⟩⟩
        · rw [if_neg hc] at hkt
          have i2 : decide ((r.1 : Int) ≤ (r.2 : Int)) = false := by simp; omega
          have Hkt := Lib.hid hkt
          clear hkt
          generalize keep (rs.take k) = KK at *
          go_wp2_with (first
            | (at_builtin; refine wpList_append_own_at _ rfl _ _ 24 rfl 0 38 iR (.agg #[.int .i64 0, .int .i64 0]) 2 16 undRanges' zz1 zz2 zz3 zz4 rfl (by decide) _ k (rcs (rs.take k)) rfl (Hoa.out.alloc _).toRow ⟨wr.heap.size + 1, 0, none⟩ 1 1 [.int .i64 (r.1 : Int), .int .i64 (r.2 : Int)] rfl rfl (cell_two_at' _ _ _ _ _ (by simp)) (by intro u hu; simp at hu; rcases hu with rfl | rfl <;> rfl) (by unfold maxLen; omega) (by omega) (Nat.zero_le _) ?_; intro v' w4 hown' hgrow hnil hat))
          have own4 := Own.ofRow hown'
          obtain ⟨kG, fG⟩ := grow_mild (v := .slice A k c) Hm.out KA.out hgrow Hf.out hat
          rw [Hcs.out] at own4
          have KG := Lib.hid kG
          have FG := Lib.hid fG
          have OG := Lib.hid own4
          clear kG fG own4 hown' hgrow hat hnil
          go_roundw
          case rel => exact ⟨k + 1, by go_num, by omega, by rw [Hkt.out], by rw [Hkt.out]; exact hn, KG, OG, FG⟩
          case measure => simp only [intOf]; omega
      · obtain rfl : k = nr := by omega
        have e : rs.take k = rs := by rw [← Hl.out, List.take_length]
        rw [e] at Ho hn
        have HN := Lib.hid hn
        have MD := Lib.hid (Made.out _ rs wr (RV.own (by rw [Hl.out]; exact Ho.out)) Hb.out (by rw [Hl.out]; omega))
        rw [e]
        clear hn
        generalize hTN : rgCard (keep rs) = TN at *
        have HTN := Lib.hid hTN
        clear hTN
        go_wp2_with (first
          | (go_at_call 15; refine MD.out.mono ?_; rintro ed w2 ⟨v, s, rfl, o1, o2, o3, o4, om, o5, o6⟩))
        go_ret2
        exact ⟨Hm.out.trans o5, .inr ⟨v, s, rfl, RV.own o1, o2, by have := HN.out; omega, by rw [Hl.out] at o4; omega, by first | omega | (rw [Hl.out]; omega), by first | exact HN.out | (rw [HTN.out]; exact HN.out), om⟩⟩
  · have i4 : ((400 : Int) < (nr : Int)) := by omega
    go_enter Tryz.func6, Tryz.ntmps6
    go_wp2_with fail
    go_ret2
    exact ⟨Kept.refl _ _, .inl ⟨_, rfl⟩⟩
end Go.Proofs
