/-
  spec.body at the kind 2: runs.
-/
import Derived.Test.YtbfjpbpohkidoaaGreatDoorBda
import Derived.Deep.DeepCutAuto
import Derived.Deep.RegionHeld3
import Derived.Deep.AppendLies
namespace Go.Roar
open Go.RowKit Go.Proofs
theorem runs_take {rs : List (Nat × Nat)} {k : Nat} {r : Nat × Nat} (h : rs[k]? = some r) : (runNums (rs.take (k + 1))).flatMap enc16 = (runNums (rs.take k)).flatMap enc16 ++ enc16 r.1 ++ enc16 (r.2 - r.1) := by
  obtain ⟨hk, rfl⟩ := List.getElem?_eq_some_iff.1 h
  unfold runNums
  rw [List.take_succ_eq_append_getElem hk, List.flatMap_append, List.flatMap_append]
  simp
end Go.Roar
namespace Go.Proofs
open Go.RowKit Go.Roar

theorem Own_drew {w : World} {size : Nat} {e : TypeId} {v : Value} {n : Nat} {xs : List Value} (h : Own w size e v n xs) : Own w.drew size e v n xs := h.kept (S := fun _ => False) (Kept.refl _ _).drew (fun _ _ => id)
theorem little16 (x : Nat) (w : World) (hx : x < 65536) :
    Calls Tryz.prog 13 #[.int .i64 (x : Int), .int .i64 2] w fun e w' => ∃ g c, e = .returned (.slice (some ⟨g, 0, none⟩) 2 c) ∧ Own w' 1 5 (.slice (some ⟨g, 0, none⟩) 2 c) 2 (u8s (enc16 x)) ∧ Mild w w' ∧ w.heap.size ≤ g := by
  have h := little_any x 2 w (by omega) (by omega)
  rw [lit_two hx] at h
  refine h.mono ?_
  rintro e w' ⟨v, rfl, o, k, f⟩
  obtain ⟨g, q, r, rfl, _⟩ := o.open (by omega)
  exact ⟨g, _, rfl, o, k, f g (by simp)⟩

set_option maxRecDepth 100000 in
set_option maxHeartbeats 4000000 in
theorem body2_any (u : Value) (rs : List (Nat × Nat)) (w : World) (hu : RV w u rs) (hr : RgOK 65536 rs) (hl : rs.length ≤ 60000) :
    Calls Tryz.prog 14 #[u, .int .i64 2] w fun e w' => ∃ v, e = .returned v ∧ Own w' 1 5 v (bodyOf rs 2).length (u8s (bodyOf rs 2)) ∧ Mild w w' ∧ (∀ b ∈ blkOf v, w.heap.size ≤ b) := by
  obtain ⟨iU, u1, u2, u3, u4⟩ := info_parts infoU8
  obtain ⟨B, d, rfl, hu⟩ := hu
  have hbd : bodyOf rs 2 = enc16 rs.length ++ (runNums rs).flatMap enc16 := by unfold bodyOf; rw [if_neg (by decide), if_neg (by decide)]
  have hLi := little_any rs.length 2 w (by omega) (by omega)
  rw [lit_two (by omega)] at hLi
  have HLi := Lib.hid hLi
  have Hu := Lib.hid hu
  have Hr := Lib.hid hr
  have Hbd := Lib.hid hbd
  clear hu hr hbd hLi
  generalize hln : rs.length = nr at *
  have Hl := Lib.hid hln
  clear hln
  go_enter Tryz.func14, Tryz.ntmps14
  go_wp2_with (first
    | (go_at_call 13; refine HLi.out.mono ?_; rintro ed w1 ⟨v1, rfl, o1, k1, f1⟩))
  have Ho1 := Lib.hid o1
  have Hk1 := Lib.hid k1
  have Hf1 := Lib.hid f1
  clear o1 k1 f1
  go_loopw [66, 12] (fun i v wr => ∃ k : Nat, i = .int .i64 k ∧ k ≤ nr ∧ Hid (Mild w wr) ∧ Hid (Own wr 1 5 v (2 + 4 * k) (u8s (enc16 nr ++ (runNums (rs.take k)).flatMap enc16))) ∧ Hid (∀ b ∈ blkOf v, w.heap.size ≤ b)) (fun i _ _ => nr - (intOf i).toNat)
  case atStart => exact ⟨0, rfl, Nat.zero_le _, Hk1, Lib.hid (by simpa [runNums] using Ho1.out), Hf1⟩
  case round =>
    obtain ⟨k, rfl, hk, Hm, Ho, Hf⟩ := hrel
    obtain ⟨A, c, rfl⟩ := Ho.out.shape
    by_cases hlt : k < nr
    · obtain ⟨r, hx⟩ : ∃ r, rs[k]? = some r := ⟨_, List.getElem?_eq_getElem (by rw [Hl.out]; exact hlt)⟩
      obtain ⟨g, rfl, a1, a2⟩ := Hu.out k r hx
      obtain ⟨r1, r2⟩ := Hr.out.1 r (List.mem_of_getElem? hx)
      have ca := Hm.out.cell2 id a1
      have cb := Hm.out.cell2 id a2
      have i1 : (k : Int) < (nr : Int) := by omega
      have Ht := Lib.hid (runs_take hx)
      have hnb := Blk.new wr 44 [.int .i64 (r.1 : Int), .int .i64 (r.2 : Int)]
      have Hoa := Lib.hid (Ho.out.alloc (.cells #[.int .i64 (r.1 : Int), .int .i64 (r.2 : Int)] 44))
      have Hma := Lib.hid (Hm.out.alloc (.cells #[.int .i64 (r.1 : Int), .int .i64 (r.2 : Int)] 44))
      clear a1 a2 hx
      go_wp2_with fail
      have g0 := hnb.cell 0
      have g1 := hnb.cell 1
      simp only [List.getElem?_cons_zero, List.getElem?_cons_succ] at g0 g1
      have LA := Lib.hid (fun (W : World) => little16 r.1 W (by omega))
      have LB := Lib.hid (fun (W : World) => little16 (r.2 - r.1) W (by omega))
      have Hcells := Lib.hid (show u8s (enc16 nr ++ (runNums (rs.take k)).flatMap enc16) ++ u8s (enc16 r.1) ++ u8s (enc16 (r.2 - r.1)) = u8s (enc16 nr ++ (runNums (rs.take (k + 1))).flatMap enc16) from by rw [Ht.out, ← u8s_append, ← u8s_append]; simp only [List.append_assoc])
      have hwz := Hma.out.size
      have hwz2 : w.heap.size ≤ (wr.alloc (.cells #[.int .i64 (r.1 : Int), .int .i64 (r.2 : Int)] 44)).drew.heap.size := hwz
      have hA : ∀ g5, (Value.slice A (2 + 4 * k) c).ownBlock = some g5 → w.heap.size ≤ g5 := fun g5 h => Hf.out g5 (by unfold blkOf; rw [h]; simp)
      have ws : IntKind.i64.wrap ((r.2 : Int) - (r.1 : Int)) = ((r.2 - r.1 : Nat) : Int) := by rw [IntWalk.i64_in _ (by omega)]; omega
      have hW : ∀ b ∈ blkOf (.slice A (2 + 4 * k) c), b < wr.heap.size := Ho.out.lt
      have hql := hnb.lt
      have hqd : wr.heap.size < (wr.alloc (.cells #[.int .i64 (r.1 : Int), .int .i64 (r.2 : Int)] 44)).drew.heap.size := hql
      have hW2 : ∀ g5, (Value.slice A (2 + 4 * k) c).ownBlock = some g5 → g5 < wr.heap.size := fun g5 h => hW g5 (by unfold blkOf; rw [h]; simp)
      generalize wr.heap.size = q at *
      go_region_held3 (fun w' => w'.cell? ⟨q, 0, none⟩ = some (.int .i64 (r.1 : Int)) ∧ w'.cell? ⟨q, 1, none⟩ = some (.int .i64 (r.2 : Int))) (first | assumption | exact ⟨g0, g1⟩ | go_keep) (first
        | (go_at_call 13; ((with_reducible refine (LA.out _).mono ?_); rintro ed wA ⟨gA, cA, rfl, oA, kA, fA⟩; have sA := kA.size; have hSA : wA.cell? ⟨q, 0, none⟩ = some (.int .i64 (r.1 : Int)) ∧ wA.cell? ⟨q, 1, none⟩ = some (.int .i64 (r.2 : Int)) := (by constructor <;> (refine kA.cell2 id ?_; first | exact And.left (by assumption) | exact And.right (by assumption)))))
        | (go_at_call 13; ((with_reducible refine (LB.out _).mono ?_); rintro ed wB ⟨gB, cB, rfl, oB, kB, fB⟩; have sB := kB.size; have hSB : wB.cell? ⟨q, 0, none⟩ = some (.int .i64 (r.1 : Int)) ∧ wB.cell? ⟨q, 1, none⟩ = some (.int .i64 (r.2 : Int)) := (by constructor <;> (refine kB.cell2 id ?_; first | exact And.left (by assumption) | exact And.right (by assumption)))))
        | (refine step_append_lies _ (by rfl) _ _ _ (by rfl) 0 5 iU (.int .u8 0) 1 1 undU8s u1 u2 u3 u4 rfl (by omega) (.slice A (2 + 4 * k) c) (2 + 4 * k) (u8s (enc16 nr ++ (runNums (rs.take k)).flatMap enc16)) (by rfl) (by first | exact ((Own_drew Hoa.out).kept kA (fun _ _ => id)).toRow | exact ((Own_drew Hoa.out).kept (kA.trans kB) (fun _ _ => id)).toRow | exact ((Own_drew Hoa.out).kept (kB.trans kA) (fun _ _ => id)).toRow) ⟨gA, 0, none⟩ 2 cA (u8s (enc16 r.1)) (by rfl) (by rfl) (by first | exact own_news oA | exact own_news (oA.kept kB (fun _ _ => id))) (u8s_each _) (by omega) (by unfold maxLen; omega) (by omega) (Nat.zero_le _) _ rfl ?_; intro g5 c5 w5 hown5 hgrow5 hat5 hlt5; have hg5 : g5 ≠ q := hat5.elim (fun h => by have := hW2 _ h; omega) (fun h => by omega); have k5 : Kept (fun b => b ∈ blkOf (.slice A (2 + 4 * k) c)) _ w5 := Kept.grown (Kept.refl _ _) hgrow5 (fun kk hkk _ => by unfold blkOf; rw [hkk]; simp); have hS5 : w5.cell? ⟨q, 0, none⟩ = some (.int .i64 (r.1 : Int)) ∧ w5.cell? ⟨q, 1, none⟩ = some (.int .i64 (r.2 : Int)) := (by constructor <;> (refine k5.cell2 (fun h => absurd (hW _ h) (Nat.lt_irrefl _)) ?_; first | exact And.left (by assumption) | exact And.right (by assumption))))
        | (refine step_append_lies _ (by rfl) _ _ _ (by rfl) 0 5 iU (.int .u8 0) 1 1 undU8s u1 u2 u3 u4 rfl (by omega) (.slice (some ⟨g5, 0, none⟩) (2 + 4 * k + 2) c5) (2 + 4 * k + 2) (u8s (enc16 nr ++ (runNums (rs.take k)).flatMap enc16) ++ u8s (enc16 r.1)) (by rfl) (by first | exact hown5 | exact ((Own.ofRow hown5).kept kB (fun _ _ => id)).toRow) ⟨gB, 0, none⟩ 2 cB (u8s (enc16 (r.2 - r.1))) (by rfl) (by rfl) (by first | exact own_news oB | exact own_news (oB.kept k5 (by intro b hb h; simp at hb; subst hb; have := hW _ h; omega)) | exact own_news ((oB.kept kA (fun _ _ => id)).kept k5 (by intro b hb h; simp at hb; subst hb; have := hW _ h; omega))) (u8s_each _) (by omega) (by unfold maxLen; omega) (by omega) (Nat.zero_le _) _ rfl ?_; intro g6 c6 w6 hown6 hgrow6 hat6 hlt6; have k6 : Kept (fun b => b = g5) _ w6 := Kept.grown (Kept.refl _ _) hgrow6 (fun kk hkk _ => by simp [Value.ownBlock] at hkk; exact hkk.symm); have hS6 : w6.cell? ⟨q, 0, none⟩ = some (.int .i64 (r.1 : Int)) ∧ w6.cell? ⟨q, 1, none⟩ = some (.int .i64 (r.2 : Int)) := (by constructor <;> (refine k6.cell2 (by show ¬ q = g5; omega) ?_; first | exact And.left (by assumption) | exact And.right (by assumption)))))
      all_goals
        have hg5w : w.heap.size ≤ g5 := hat5.elim (fun h => hA _ h) (fun h => by omega)
        have own6 := Own.ofRow hown6
        rw [Hcells.out, show 2 + 4 * k + 2 + 2 = 2 + 4 * (k + 1) by omega] at own6
        have m6 : Mild w w6 := by
          first
            | exact Kept.then ((Kept.then (Hma.out.drew.trans kA) k5 (fun b hb h => absurd (Hf.out b h) (by omega))).trans kB) k6 (fun b hb h => by omega)
            | exact Kept.then (Kept.then ((Hma.out.drew.trans kA).trans kB) k5 (fun b hb h => absurd (Hf.out b h) (by omega))) k6 (fun b hb h => by omega)
            | exact Kept.then (Kept.then ((Hma.out.drew.trans kB).trans kA) k5 (fun b hb h => absurd (Hf.out b h) (by omega))) k6 (fun b hb h => by omega)
        have s5 := k5.size
        have g6w : w.heap.size ≤ g6 := hat6.elim (fun h => by simp [Value.ownBlock] at h; omega) (fun h => by omega)
        have Ho6 := Lib.hid own6
        have Hm6 := Lib.hid m6
        go_wp2
        go_roundw
        case rel => exact ⟨k + 1, by go_num, by omega, Hm6, Ho6, Lib.hid (by intro b hb; simp at hb; omega)⟩
        case measure => simp only [intOf]; omega
    · obtain rfl : k = nr := by omega
      go_wp2
      go_ret
      have e : rs.take k = rs := by rw [← Hl.out, List.take_length]
      have ho := Ho.out
      rw [e] at ho
      have e2 : (bodyOf rs 2).length = 2 + 4 * k := by rw [Hbd.out]; have := ho.len; simp at this ⊢; omega
      exact ⟨_, rfl, by rw [e2, Hbd.out]; exact ho, Hm.out, Hf.out⟩
end Go.Proofs
