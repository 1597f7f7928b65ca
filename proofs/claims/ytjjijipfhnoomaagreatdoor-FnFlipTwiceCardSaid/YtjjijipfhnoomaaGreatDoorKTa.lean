/-
  newRunContainer16Range, runContainer16.getCardinality, toArrayContainer.
-/
import Derived.Test.YtjjijipfhnoomaaGreatDoorKUni
import Derived.Test.YtjjijipfhnoomaaGreatDoorJSr
namespace Go.Proofs
open Go.RowKit Go.Roar
attribute [local go_sem ↓] Go.wp_at_zero Go.wp_at_succ

set_option maxRecDepth 100000 in
set_option maxHeartbeats 1000000 in
theorem newRun_any (a b : Nat) (w : World) (hab : a ≤ b) (hb : b < 65536) :
    Calls Tryz.prog 48 #[.int .u16 a, .int .u16 b] w fun ed w' => ∃ p v, ed = .returned (.pointer (some ⟨p, 0, none⟩)) ∧ SS w [] w' (RC p v [(a, b)]) := by
  obtain ⟨iU, u1, u2, u3, u4⟩ := info_parts infoIv
  have S0 := (SS.bare w 2 114).new 112 [.slice none 0 0]
  have f0 := S0.cell 0 rfl 0 rfl
  have f1 := S0.free 0 rfl 0
  go_enter Tryz.func48, Tryz.ntmps48
  go_wp2
  go_region_law (first
    | (go_simp; go_at_call 55; refine (newInterval_any _ _ _ hab hb).mono ?_; rintro ed w1 ⟨rfl, hk⟩; have S1 := S0.drew.quiet hk; have f2 := S1.cell 0 rfl 0 rfl; have f3 := S1.free 0 rfl 0; have f6 := (S1.alloc (.cells #[.int .u16 (a : Int), .int .u16 ((b - a : Nat) : Int)] 114)).cell 0 rfl 0 rfl; have f7 := (S1.alloc (.cells #[.int .u16 (a : Int), .int .u16 ((b - a : Nat) : Int)] 114)).free 0 rfl 0)
    | (refine step_of_list rfl ?_; intro Q9 hQ9; refine wpList_append_ss rfl (.tmp 12) (.tmp 16) 110 rfl 114 iU (.agg #[.int .u16 (0 : Int), .int .u16 (0 : Int)]) 2 4 undIvs u1 u2 u3 u4 rfl (by decide) w _ [B w.heap.size 112 [.slice none 0 0]] [] (.slice none 0 0) 0 [] rfl (S1.alloc _) ⟨w1.heap.size, 0, none⟩ 1 1 [.int .u16 (a : Int), .int .u16 ((b - a : Nat) : Int)] rfl rfl (Blk.news (Blk.new _ _ _)) (by simp [Value.oneCell']) (by unfold maxLen; omega) (by omega) ?_; intro v2 w2 S2; refine hQ9 _ _ ?_; clear hQ9 Q9; obtain ⟨g2, c2, rfl, _, _⟩ := Own.shape (S2.get (A := O 2 114 v2 (0 + 1) ([] ++ [.int .u16 (a : Int), .int .u16 ((b - a : Nat) : Int)])) (by simp)) (by omega); have f4 := S2.cell 0 rfl 0 rfl; have f5 := S2.free 0 rfl 0))
  all_goals (have S3 := SS.store (L := []) S2 0 (.slice (some ⟨g2, 0, none⟩) (0 + 1) c2); go_wp2)
  all_goals go_ret
  all_goals exact ⟨w.heap.size, _, rfl, by simpa [RC, ivs] using S3⟩

set_option maxRecDepth 100000 in
set_option maxHeartbeats 1000000 in
theorem rcCard_any (p : Nat) (v : Value) (rs : List (Nat × Nat)) (w : World) (hr : RunsOK rs) (h0 : rs ≠ []) (h : Parts w (RC p v rs)) :
    Calls Tryz.prog 58 #[.pointer (some ⟨p, 0, none⟩)] w fun ed w' => ed = .returned (.int .i64 (rgCard rs : Nat)) ∧ Mild w w' := by
  have S0 := SS.init h
  generalize hF : foot (RC p v rs) = F at *
  unfold RC at S0
  have k0 := S0.at0
  have ho : Own w 2 114 v rs.length (ivs rs) := S0.get (A := O 2 114 v rs.length (ivs rs)) (by simp)
  obtain ⟨g, c, rfl, hc1, hc2⟩ := Own.shape ho (List.length_pos_iff.2 h0)
  have hb := hr.1
  have hcl := rcard_le hr
  have hrl := rg_length (n := 65536) rs 0 hr (by simp) (by omega)
  clear hc1 hc2
  have Hb := Lib.hid hb
  clear hb hr h0
  go_enter Tryz.func58, Tryz.ntmps58
  go_wp2
  go_loopw [11, 3] (fun i n wr => ∃ k : Nat, i = .int .i64 k ∧ n = .int .i64 (rgCard (rs.take k) : Nat) ∧ k ≤ rs.length ∧ Mild w wr) (fun i _ _ => rs.length - (intOf i).toNat)
  case atStart => exact ⟨0, rfl, rfl, Nat.zero_le _, Kept.refl _ _⟩
  case round =>
    obtain ⟨k, rfl, rfl, hk, hm⟩ := hrel
    have Sk := S0.quiet hm
    by_cases hlt : k < rs.length
    · obtain ⟨r, hx⟩ : ∃ r, rs[k]? = some r := ⟨_, List.getElem?_eq_getElem hlt⟩
      have hrr := Hb.out r (List.mem_of_getElem? hx)
      have ca := Own.cellAt (Sk.get (A := O 2 114 (.slice (some ⟨g, 0, none⟩) rs.length c) rs.length (ivs rs)) (by simp)) (ivs_at hx).1
      have cb := Own.cellAt (Sk.get (A := O 2 114 (.slice (some ⟨g, 0, none⟩) rs.length c) rs.length (ivs rs)) (by simp)) (ivs_at hx).2
      have hsu := rcard_take_succ hx
      have hb2 := rcard_le2 hcl (k := k + 1)
      go_wp2
      go_roundw
      case rel => exact ⟨k + 1, by go_num, by rw [hsu] at hb2 ⊢; go_num, by omega, by first | exact (hm.alloc _).alloc _ | exact hm.alloc _⟩
      case measure => simp only [intOf]; omega
    · obtain rfl : k = rs.length := by omega
      go_wp2
      go_ret
      exact ⟨by rw [List.take_length]; rfl, hm⟩

theorem newArr_any (w : World) : Calls Tryz.prog 43 #[] w fun ed w' => ed = .returned (.pointer (some ⟨w.heap.size, 0, none⟩)) ∧ w' = w.alloc (.cells #[.slice none 0 0] 106) := by
  go_enter Tryz.func43, Tryz.ntmps43
  go_wp2
  go_ret
  exact ⟨rfl, rfl⟩
theorem acAddRange_int2 (p : Nat) (v : Value) (l : List Nat) (s e : Nat) (S E : Int) (w : World) (hS : S = s) (hE : E = e) (hs : Rising l) (hb : ∀ y ∈ l, y < 65536) (hl : l.length ≤ 4096) (hse : s < e) (he : e ≤ 65536) (hcard : lb l s + (l.length - lb l e) + (e - s) ≤ 4096)
    (h : Parts w (AC p v l)) :
    Calls Tryz.prog 67 #[.pointer (some ⟨p, 0, none⟩), .int .i64 S, .int .i64 E] w fun ed w' => ed = .returned (.iface 82 (.pointer (some ⟨p, 0, none⟩))) ∧
      ∃ v', SS w (foot (AC p v l)) w' (AC p v' (addR l s e)) := by
  subst hS hE; exact acAddRange_any p v l s e w hs hb hl hse he hcard h

set_option maxRecDepth 100000 in
set_option maxHeartbeats 1000000 in
theorem rcToArray_any (p : Nat) (v : Value) (rs : List (Nat × Nat)) (w : World) (hr : RunsOK rs) (h0 : rs ≠ []) (hn : rgCard rs ≤ 4096) (h : Parts w (RC p v rs)) :
    Calls Tryz.prog 61 #[.pointer (some ⟨p, 0, none⟩)] w fun ed w' => ∃ q v', ed = .returned (.pointer (some ⟨q, 0, none⟩)) ∧ SS w (foot (RC p v rs)) w' (AC q v' (rgNums rs) ++ RC p v rs) := by
  have S0 := SS.init h
  generalize hF : foot (RC p v rs) = F at *
  unfold RC at S0 ⊢
  have k0 := S0.at0
  have ho : Own w 2 114 v rs.length (ivs rs) := S0.get (A := O 2 114 v rs.length (ivs rs)) (by simp)
  obtain ⟨g, c, rfl, hc1, hc2⟩ := Own.shape ho (List.length_pos_iff.2 h0)
  have hb := hr.1
  have hrl := rg_length (n := 65536) rs 0 hr (by simp) (by omega)
  clear hc1 hc2
  have Hb := Lib.hid hb
  have Hr := Lib.hid hr
  clear hb hr h0 h
  have S1 : SS w F (w.alloc (.cells #[.slice none 0 0] 106)) (AC w.heap.size (.slice none 0 0) [] ++ [B p 112 [.slice (some ⟨g, 0, none⟩) rs.length c], O 2 114 (.slice (some ⟨g, 0, none⟩) rs.length c) rs.length (ivs rs)]) := by
    have := (S0.join (SS.bare w 1 57)).new 106 [.slice none 0 0]
    exact this
  have f1 := S1.cell 2 rfl 0 rfl
  go_enter Tryz.func61, Tryz.ntmps61
  go_wp2_with (first
    | (go_at_call 43; refine (newArr_any _).mono ?_; rintro ed w1 ⟨rfl, rfl⟩)
    | fail)
  generalize w.heap.size = H at *
  go_loopw [11] (fun i wr => ∃ k : Nat, i = .int .i64 k ∧ k ≤ rs.length ∧ ∃ v', SS w F wr (AC H v' (rgNums (rs.take k)) ++ [B p 112 [.slice (some ⟨g, 0, none⟩) rs.length c], O 2 114 (.slice (some ⟨g, 0, none⟩) rs.length c) rs.length (ivs rs)])) (fun i _ => rs.length - (intOf i).toNat)
  case atStart => exact ⟨0, rfl, Nat.zero_le _, _, S1⟩
  case round =>
    obtain ⟨k, rfl, hk, v', Sk⟩ := hrel
    clear S0 S1 k0 f1 ho
    by_cases hlt : k < rs.length
    · obtain ⟨r, hx⟩ : ∃ r, rs[k]? = some r := ⟨_, List.getElem?_eq_getElem hlt⟩
      have hrr := Hb.out r (List.mem_of_getElem? hx)
      have c1 := Sk.cell 2 rfl 0 rfl
      have ho := Sk.get (A := O 2 114 (.slice (some ⟨g, 0, none⟩) rs.length c) rs.length (ivs rs)) (by simp)
      have c2 := (Own.cellAt ho (ivs_at hx).1).1
      have c3 := (Own.cellAt ho (ivs_at hx).2).1
      have hsu := rcard_take_succ hx
      have hb2 := rcard_le2 hn (k := k + 1)
      have Hx := Lib.hid hx
      clear hx ho
      have i1 : (0 : Int) ≤ (k : Int) := by omega
      have i2 : (k : Int) < (rs.length : Int) := by omega
      go_wp2
      have L := Lib.hid (fun (W : World) => last_r r W hrr)
      have hlow := nums_below Hr.out Hx.out
      have hlb1 : lb (rgNums (rs.take k)) r.1 = (rgNums (rs.take k)).length := lb_all (fun x hx => by have := hlow x hx; omega)
      have hlb2 : lb (rgNums (rs.take k)) (r.2 + 1) = (rgNums (rs.take k)).length := lb_all (fun x hx => by have := hlow x hx; omega)
      have hlen : (rgNums (rs.take k)).length = rgCard (rs.take k) := rgNums_length _
      have hne : addR (rgNums (rs.take k)) r.1 (r.2 + 1) = rgNums (rs.take (k + 1)) := by
        rw [addR_above (fun x hx => by have := hlow x hx; omega) (by omega), nums_take_succ Hx.out, show r.2 + 1 - r.1 = r.2 - r.1 + 1 by omega]
      have hok := Hr.out.take k
      have AD := Lib.hid (fun (W : World) (S E : Int) (hS : S = ((r.1 : Nat) : Int)) (hE : E = ((r.2 + 1 : Nat) : Int)) (hP : Parts W (AC H v' (rgNums (rs.take k)))) => acAddRange_int2 H v' (rgNums (rs.take k)) r.1 (r.2 + 1) S E W hS hE (rgNums_rising hok) (rgNums_lt hok) (by rw [hlen]; exact rcard_le2 hn) (by omega) (by omega) (by rw [hlb1, hlb2, hlen]; omega) hP)
      rw [hne] at AD
      have HSk := Lib.hid Sk
      clear Sk hne hlb1 hlb2 hlow hok hlen
      generalize hl2 : rgNums (rs.take (k + 1)) = l2 at *
      have Hl2 := Lib.hid hl2
      clear hl2
      generalize hl1 : rgNums (rs.take k) = l1 at *
      clear hl1
      go_region_held3 (fun w' => w'.cell? ⟨p, 0, none⟩ = some (.slice (some ⟨g, 0, none⟩) rs.length c) ∧ w'.cell? ⟨g, k * 2, none⟩ = some (.int .u16 (r.1 : Int)) ∧ w'.cell? ⟨g, k * 2 + 1, none⟩ = some (.int .u16 ((r.2 - r.1 : Nat) : Int))) (first | assumption | exact ⟨c1, c2, c3⟩ | go_keep) (first
        | (go_at_call 68; (with_reducible refine (L.out _).mono ?_); rintro ed w1 ⟨rfl, k1⟩; have hS1 : w1.cell? ⟨p, 0, none⟩ = some (.slice (some ⟨g, 0, none⟩) rs.length c) ∧ w1.cell? ⟨g, k * 2, none⟩ = some (.int .u16 (r.1 : Int)) ∧ w1.cell? ⟨g, k * 2 + 1, none⟩ = some (.int .u16 ((r.2 - r.1 : Nat) : Int)) := ⟨k1.cell2 id (And.left (by assumption)), k1.cell2 id (And.left (And.right (by assumption))), k1.cell2 id (And.right (And.right (by assumption)))⟩)
        | (go_at_call 67; have S1 := Lib.hid (HSk.out.drew.quiet k1); (with_reducible refine (AD.out _ (IntKind.i64.wrap (r.1 : Int)) (IntKind.i64.wrap (IntKind.i64.wrap (r.2 : Int) + 1)) (IntWalk.i64_in _ (by omega)) (by rw [IntWalk.i64_in (r.2 : Int) (by omega), IntWalk.i64_in _ (by omega)]; omega) S1.out.left.sep).mono ?_); rintro ed w2 ⟨rfl, v2, S2⟩; have S3 := Lib.hid (S1.out.frame S2); have hS2 : w2.cell? ⟨p, 0, none⟩ = some (.slice (some ⟨g, 0, none⟩) rs.length c) ∧ w2.cell? ⟨g, k * 2, none⟩ = some (.int .u16 (r.1 : Int)) ∧ w2.cell? ⟨g, k * 2 + 1, none⟩ = some (.int .u16 ((r.2 - r.1 : Nat) : Int)) := ⟨S3.out.cell 2 rfl 0 rfl, (Own.cellAt (S3.out.get (A := O 2 114 (.slice (some ⟨g, 0, none⟩) rs.length c) rs.length (ivs rs)) (by simp)) (ivs_at Hx.out).1).1, (Own.cellAt (S3.out.get (A := O 2 114 (.slice (some ⟨g, 0, none⟩) rs.length c) rs.length (ivs rs)) (by simp)) (ivs_at Hx.out).2).1⟩)
        | fail)
      go_wp2
      go_roundw
      case rel => exact ⟨k + 1, by go_num, by omega, v2, by rw [Hl2.out]; exact S3.out⟩
      case measure => simp only [intOf]; omega
    · obtain rfl : k = rs.length := by omega
      rw [List.take_length] at Sk
      go_wp2
      go_ret
      exact ⟨H, v', rfl, Sk⟩
end Go.Proofs
