/-
  laws.FnOfBytes: the walk: it returns true.
-/
import Derived.Test.YtbfjpbpohkidoaaGreatDoorBy
import Derived.Test.YtbfjpbpohkidoaaGreatDoorMb
import Derived.Test.YtbfjpbpohkidoaaGreatDoorSet
import Derived.Test.YtbfjpbpohkidoaaGreatDoorQlc
import Derived.Test.YtbfjpbpohkidoaaGreatDoorOf
namespace Go.Roar
open Go.RowKit Go.Proofs
/-- A slice that came in, that reads Booleans. -/
def BV (w : World) (v : Value) (n : Nat) : Prop :=
  ∃ A c, v = .slice A n c ∧ ∀ i, i < n → ∃ (a : Addr) (b : Bool), A = some a ∧ w.cell? (a.add i) = some (.bool b)
theorem RB.own {w : World} {g n c : Nat} {bs : List Nat} (h : Own w 1 5 (.slice (some ⟨g, 0, none⟩) n c) n (u8s bs)) (hb : ∀ b ∈ bs, b < 256) : RB w (some ⟨g, 0, none⟩) n c bs := by
  have hl := h.len
  rw [u8s_length, Nat.mul_one] at hl
  refine ⟨hl, ?_, hb, fun _ => ⟨g, 0, rfl, fun j x hx => ?_⟩⟩
  · rcases h.2 with ⟨h0, _⟩ | ⟨g', k, r, hv, _⟩
    · cases h0
    · simp at hv; omega
  · rw [Nat.zero_add]; exact h.at (u8s_at hx)
end Go.Roar
namespace Go.Proofs
open Go.RowKit Go.Roar
theorem whole_pos (qs : List (Nat × List (Nat × Nat))) (kd offs : List Nat) : 0 < (wholeOf qs kd offs).length := by
  have h := headOf_length kd
  unfold wholeOf
  rw [List.length_append, List.length_append, List.length_append]
  split at h <;> omega
theorem set_or {e : Ending} {w : World} (h : (∃ v, e = .returned (.tuple #[v, .bool false])) ∨ ∃ v s, e = .returned (.tuple #[v, .bool true]) ∧ RV w v s ∧ RgOK 4294967296 s ∧ rgCard s ≤ 200000 ∧ s.length ≤ 400) :
    ∃ v ok s, e = .returned (.tuple #[v, .bool ok]) ∧ (ok = true → RV w v s ∧ RgOK 4294967296 s ∧ rgCard s ≤ 200000 ∧ s.length ≤ 400) := by
  rcases h with ⟨v, rfl⟩ | ⟨v, s, rfl, h⟩
  · exact ⟨v, false, [], rfl, fun h => by cases h⟩
  · exact ⟨v, true, s, rfl, fun _ => h⟩

set_option maxRecDepth 100000 in
set_option maxHeartbeats 4000000 in
theorem law_any (u v : Value) (rs : List (Nat × Nat)) (rn : Nat) (w : World) (hu : SG w u rs) (hb : ∀ r ∈ rs, r.1 < 4294967296 ∧ r.2 < 4294967296) (hv : BV w v rn) (hT : Tab w) (hTs : 1 < w.heap.size) :
    Calls Tryz.prog 3 #[u, v] w fun e w' => e = .returned (.bool true) ∧ Mild w w' := by
  obtain ⟨iU, zz1, zz2, zz3, zz4⟩ := info_parts infoI64
  have hSet := fun (h : rs.length ≤ 2147483647) => set_any made_any u rs w hu hb h
  obtain ⟨B, d, rfl, _⟩ := hu
  obtain ⟨R, e, rfl, hv⟩ := hv
  have HS := Lib.hid hSet
  have Hv := Lib.hid hv
  have HT := Lib.hid hT
  clear hSet hv hT hb
  generalize hln : rs.length = nr at *
  clear hln
  by_cases h1 : nr ≤ 2147483647
  · by_cases h2 : rn ≤ 2147483647
    · have Hset := Lib.hid (HS.out h1)
      have i1 : ¬ ((2147483647 : Int) < (nr : Int)) := by omega
      have i2 : ¬ ((2147483647 : Int) < (rn : Int)) := by omega
      clear HS
      go_enter Tryz.func3, Tryz.ntmps3
      go_upto_if 32 with (first
        | (go_at_call 4; (with_reducible refine Hset.out.mono ?_); rintro ed w1 ⟨k1, hor⟩; obtain ⟨v1, ok, s, rfl, hok⟩ := set_or hor; have K1 := Lib.hid k1; have Hok := Lib.hid hok; clear k1 hor hok))
      cases ok
      · go_wp2_with fail
        go_ret
        exact ⟨rfl, K1.out⟩
      · obtain ⟨rv, ho, hc, hl⟩ := Hok.out rfl
        have hqo := partsOf_ok ho
        have Hqo := Lib.hid hqo.1
        have hqn := parts_len hqo.1
        have Hnum := Lib.hid (show (nums ((partsOf s).map fun q => (q.1, rgNums q.2))).foldl tell [] = s by rw [nums_parts, hqo.2]; exact tell_back ho)
        have Hnm2 := Lib.hid (show nums ((partsOf s).map fun q => (q.1, rgNums q.2)) = rgNums s by rw [nums_parts, hqo.2])
        have HO := Lib.hid ho
        have Hc := Lib.hid hc
        have Hl4 := Lib.hid hl
        have Hrv := Lib.hid rv
        have HP := Lib.hid (fun (W : World) (h : Mild w1 W) => parts_any v1 s W (rv.mild h) ho (by omega))
        have HB := Lib.hid (fun (W : World) (kv : Value) (kd : List Nat) (h : Mild w1 W) (hk : KV W kv kd) (hkk : KindsOK (partsOf s) kd) => bytes_any v1 s kv kd W (rv.mild h) ho (by omega) hc hk hkk)
        generalize partsOf s = qs at *
        generalize hqs : qs.length = n at *
        have Hn := Lib.hid hqs
        have hm0 : Mild w1 (w1.alloc (.cells #[] 3)) := (Kept.refl _ _).alloc _
        have how0 : Own (w1.alloc (.cells #[] 3)) 1 3 (.slice (some ⟨w1.heap.size, 0, none⟩) 0 0) 0 [] := ⟨rfl, .inr ⟨w1.heap.size, 0, [], rfl, rfl, by unfold maxLen; omega, Blk.new w1 _ []⟩⟩
        have Hm0 := Lib.hid hm0
        have How0 := Lib.hid how0
        have Hz0 := Lib.hid (show (w1.alloc (.cells #[] 3)).heap.size = w1.heap.size + 1 by simp)
        clear rv ho hc hl hqo Hok hqs hm0 how0
        go_wp2_with (first
          | (go_at_call 5; (with_reducible refine (HP.out _ Hm0.out).mono ?_); rintro ed w2 ⟨pv, rfl, pv1, k2⟩; rw [Hz0.out] at pv1; have Pvk := Lib.hid pv1; obtain ⟨PA, pc, rfl, _⟩ := pv1; have K2 := Lib.hid k2; clear k2; rw [Hn.out] at Pvk ⊢))
        have K3 := Lib.hid (Hm0.out.trans K2.out)
        have How3 := Lib.hid (How0.out.kept K2.out (fun _ _ => id))
        go_loopw [37, 7] (fun i kv wr => ∃ (k : Nat) (ks : List Nat), i = .int .i64 k ∧ k ≤ n ∧ Hid (ks.length = k) ∧ Hid (∀ (i : Nat) (q : Nat × List (Nat × Nat)) (x : Nat), qs[i]? = some q → ks[i]? = some x → x = 2 ∨ (x = if rgCard q.2 ≤ 4096 then 0 else 1)) ∧ Hid (Mild w1 wr) ∧ Hid (Kept (fun b => b = w1.heap.size) w2 wr) ∧ Hid (Own wr 1 3 kv k (i64s ks)) ∧ Hid (∀ b ∈ blkOf kv, b = w1.heap.size ∨ w2.heap.size ≤ b)) (fun i _ _ => n - (intOf i).toNat)
        case atStart => exact ⟨0, [], rfl, Nat.zero_le _, Lib.hid rfl, Lib.hid (by simp), K3, Lib.hid (Kept.refl _ _), How3, Lib.hid (by simp)⟩
        case round =>
          obtain ⟨k, ks, rfl, hk, Hks, Hkk, Hm, Hm2, Hko, Hkf⟩ := hrel
          obtain ⟨KA, kc, rfl⟩ := Hko.out.shape
          by_cases hlt : k < n
          · obtain ⟨q, hx⟩ : ∃ q, qs[k]? = some q := ⟨_, List.getElem?_eq_getElem (by rw [Hn.out]; exact hlt)⟩
            have hpw := Pvk.out.kept Hm2.out (fun b h1 h2 h3 => by omega)
            obtain ⟨PA', pc', he, hpw⟩ := hpw
            obtain ⟨gp, u, h9, a1, a2, a3, _, _⟩ := hpw k q hx
            obtain rfl : PA = PA' := by simp at he; exact he.1
            subst h9
            obtain ⟨ul, UA, uc, rfl⟩ : ∃ ul A c, u = .slice A ul c := by obtain ⟨A, c, h, _⟩ := a3; exact ⟨_, A, c, h⟩
            obtain ⟨b1, b2, b3⟩ := Hqo.out.2 q (List.mem_of_getElem? hx)
            have i1 : (k : Int) < (n : Int) := by omega
            have hrl := rg_length q.2 0 b3 (fun _ _ => Nat.zero_le _) (by omega)
            obtain ⟨pl, hpl⟩ : ∃ pl, pl = if rgCard q.2 ≤ 4096 then 0 else 1 := ⟨_, rfl⟩
            have LP : Hid (∀ W, Mild wr W → Calls Tryz.prog 6 #[.slice UA ul uc] W fun e w' => e = .returned (.int .i64 (pl : Int)) ∧ Mild W w') := Lib.hid (fun W h => by rw [hpl]; exact plain_any _ q.2 W (a3.mild h) (fun r hr => by have := b3.1 r hr; omega) (by omega))
            obtain ⟨bb, hb1, hb2⟩ : ∃ bb : Bool, (k < rn → ∃ a : Addr, R = some a ∧ w.cell? (a.add k) = some (.bool bb)) ∧ (¬ k < rn → bb = false) := by
              by_cases h : k < rn
              · obtain ⟨a, b, h3, h4⟩ := Hv.out k h
                exact ⟨b, fun _ => ⟨a, h3, h4⟩, fun h' => absurd h h'⟩
              · exact ⟨false, fun h' => absurd h' h, fun _ => rfl⟩
            obtain ⟨x, hxx⟩ : ∃ x, x = if bb = true then 2 else pl := ⟨_, rfl⟩
            have Hkn : Hid (∀ (i : Nat) (q : Nat × List (Nat × Nat)) (y : Nat), qs[i]? = some q → (ks ++ [x])[i]? = some y → y = 2 ∨ (y = if rgCard q.2 ≤ 4096 then 0 else 1)) := Lib.hid (fun i q' y hq hy => by
              by_cases hi : i < ks.length
              · rw [List.getElem?_append_left hi] at hy; exact Hkk.out i q' y hq hy
              · rw [List.getElem?_append_right (by omega)] at hy
                have h0 : i - ks.length = 0 := by have := (List.getElem?_eq_some_iff.1 hy).1; simp at this; omega
                rw [h0] at hy; simp at hy; subst hy
                have hik : i = k := by have := Hks.out; omega
                rw [hik, hx] at hq; simp at hq; subst hq
                rw [hxx]
                cases bb
                · exact .inr (by simp [hpl])
                · exact .inl rfl)
            have Hb1 := Lib.hid hb1
            have Hb2 := Lib.hid hb2
            have Hxx := Lib.hid hxx
            have hpl2 : pl ≤ 1 := by rw [hpl]; split <;> omega
            have hx2 : x ≤ 2 := by rw [hxx]; split <;> omega
            have HmA := Lib.hid (Kept.alloc (Kept.refl (fun _ => False) wr) (.cells #[.int .i64 (q.1 : Int), .slice UA ul uc] 32))
            clear a3 hx b1 b2 b3 hrl hpl he hpw hb1 hb2 hxx
            go_upto_region 11 with (first
              | (go_at_call 6; (with_reducible refine (LP.out _ HmA.out).mono ?_); rintro ed w4 ⟨rfl, k4⟩; have K4 := Lib.hid (HmA.out.trans k4); clear k4))
            go_cut [54] (fun s wx => s = .bool bb ∧ wx = w4)
            case first =>
              by_cases hkr : k < rn
              · obtain ⟨a, rfl, hc⟩ := Hb1.out hkr
                have cr : w4.cell? (a.add k) = some (.bool bb) := ((K1.out.trans Hm.out).trans K4.out).cell2 id hc
                have i3 : (k : Int) < (rn : Int) := by omega
                clear hc
                go_wp2_with fail
                go_meet
                case rel => exact ⟨rfl, rfl⟩
              · obtain rfl := Hb2.out hkr
                have i3 : ¬ (k : Int) < (rn : Int) := by omega
                go_wp2_with fail
                go_meet
                case rel => exact ⟨rfl, rfl⟩
            case rest =>
              obtain ⟨rfl, rfl⟩ := hcut
              go_upto_if 54 with fail
              go_cut [10] (fun s wx => s = .int .i64 (x : Int) ∧ wx = wc)
              case first =>
                cases bb
                · obtain rfl : x = pl := by rw [Hxx.out]; rfl
                  go_wp2_with fail
                  go_meet
                  case rel => exact ⟨rfl, rfl⟩
                · obtain rfl : x = 2 := by rw [Hxx.out]; rfl
                  go_wp2_with fail
                  go_meet
                  case rel => exact ⟨rfl, rfl⟩
              case rest =>
                obtain ⟨rfl, rfl⟩ := hcut
                have hz2 := Hm2.out.size
                have hk4 := K4.out.size
                have hz3 : w1.heap.size < w2.heap.size := by have h1 := K2.out.size; have h2 := Hz0.out; omega
                go_wp2_with (first
                  | (at_builtin; refine wpList_append_own_at _ rfl _ _ 28 rfl 0 3 iU (.int .i64 0) 1 8 undInts zz1 zz2 zz3 zz4 rfl (by decide) _ k (i64s ks) rfl ((Hko.out.kept K4.out (fun _ _ => id)).alloc _).toRow ⟨wc.heap.size, 0, none⟩ 1 1 [.int .i64 (x : Int)] rfl rfl (cell_one_new _ _ _) (by intro u hu; simp at hu; subst hu; rfl) (by unfold maxLen; omega) (by omega) (Nat.zero_le _) ?_; intro v' w5 hown' hgrow hnil hat))
                have own5 := Own.ofRow hown'
                obtain ⟨kB, hat'⟩ := grow_kept (v := .slice KA k kc) hgrow hat
                have kA : Mild wr (wc.alloc (.cells #[.int .i64 (x : Int)] 3)) := K4.out.alloc _
                have zA : wc.heap.size ≤ (wc.alloc (.cells #[.int .i64 (x : Int)] 3)).heap.size := by simp
                have hcs : i64s ks ++ [Value.int .i64 (x : Int)] = i64s (ks ++ [x]) := by simp [i64s]
                rw [hcs] at own5
                have O5 := Lib.hid own5
                have M5 := Lib.hid (Kept.then (Hm.out.trans kA) kB (fun b hb hv => by rcases Hkf.out b hv with h | h <;> omega))
                have M6 := Lib.hid (Kept.then (Kept.then Hm2.out kA (fun b hb h => h.elim)) kB (fun b hb hv => by rcases Hkf.out b hv with h | h; exact h; omega))
                have F5 := Lib.hid (show ∀ b ∈ blkOf v', b = w1.heap.size ∨ w2.heap.size ≤ b from fun b hb => by
                  rcases hat' b hb with h | h
                  · exact Hkf.out b h
                  · right; omega)
                have S5 := Lib.hid (show (ks ++ [x]).length = k + 1 by rw [List.length_append, Hks.out]; rfl)
                clear own5 kB hat' hown' hgrow hat hnil hcs kA
                go_roundw
                case rel => exact ⟨k + 1, ks ++ [x], by go_num, by omega, S5, Hkn, M5, M6, O5, F5⟩
                case measure => simp only [intOf]; omega
          · obtain rfl : n = k := by omega
            have hkv : KV wr (.slice KA n kc) ks := KV.own (by rw [Hks.out]; exact Hko.out)
            have hkk : KindsOK qs ks := ⟨by rw [Hks.out, Hn.out], Hkk.out⟩
            have HBy := Lib.hid (HB.out wr _ ks Hm.out hkv hkk)
            have Hkk2 := Lib.hid hkk
            clear hkv hkk HB
            go_upto_region 16 with (first
              | (go_at_call 7; (with_reducible refine HBy.out.mono ?_); rintro ed w5 ⟨bv, offs, rfl, ob, hofl, hofb, hwl, k5⟩))
            have hLA := loadsA Hqo.out Hkk2.out hofl hofb hwl
            have hLB := loadsB Hqo.out Hkk2.out hofl hofb hwl
            have hby := wholeOf_byte Hqo.out.2 Hkk2.out (by rw [Hn.out]; exact hqn) hofb
            have hpos := whole_pos qs ks offs
            have hsr := rgNums_rising HO.out
            have hsl := rgNums_lt HO.out
            have hsc := rgNums_length s
            rw [← Hnm2.out] at hsr hsl hsc
            have hnt := Hnum.out
            obtain ⟨gb, kb, rb, rfl, _⟩ := ob.open hpos
            generalize (qs.map fun q => (q.1, rgNums q.2)) = ps at *
            generalize wholeOf qs ks offs = bs at *
            have hrb := RB.own ob hby
            have kW5 : Mild w w5 := (K1.out.trans Hm.out).trans k5
            have hcc := Hc.out
            have CA := Lib.hid (ofBytes_any gb 0 _ bs ps w5 hrb hpos hwl hLA (fun i hi => kW5.cell2 id (HT.out i hi)) (by have := kW5.size; omega) hsr hsl (by omega))
            have CB := Lib.hid (fun (W : World) (h : Mild w5 W) => ofBuffer_any gb 0 _ bs ps W (hrb.mild h) hpos hwl hLB (fun i hi => (kW5.trans h).cell2 id (HT.out i hi)) (by have := (kW5.trans h).size; omega) hsr hsl (by omega))
            rw [hnt] at CA
            have IS := Lib.hid (fun (W : World) (v : Value) (h : Mild w5 W) (hv : SV W v s) => is_any v v1 s W hv (Hrv.out.mild ((Hm.out.trans k5).trans h)) (fun r hr => by have := HO.out.1 r hr; omega) (by have := Hl4.out; omega))
            have KW5 := Lib.hid kW5
            have Hnt := Lib.hid hnt
            generalize bs.length = L at *
            clear hLA hLB hby hpos hsr hsl hsc hnt hrb kW5 hcc ob hofl hofb hwl k5
            go_wp2_with (first
              | (go_at_call 8; (with_reducible refine CA.out.mono ?_); rintro ed w6 ⟨v6, rfl, o6, k6, f6⟩)
              | (go_at_call 9; (with_reducible refine (CB.out _ k6).mono ?_); rintro ed w7 ⟨v7, rfl, o7, k7, f7⟩)
              | (go_at_call 10; (with_reducible refine (IS.out _ v6 (k6.trans k7) ((SV.own o6).kept k7 (fun _ _ => id))).mono ?_); rintro ed w8 ⟨rfl, k8⟩)
              | (go_at_call 10; (with_reducible refine (IS.out _ v7 ((k6.trans k7).trans k8) ((SV.own (Hnt.out ▸ o7)).kept k8 (fun _ _ => id))).mono ?_); rintro ed w9 ⟨rfl, k9⟩))
            go_ret
            exact ⟨rfl, (((KW5.out.trans k6).trans k7).trans k8).trans k9⟩
    · have i1 : ¬ ((2147483647 : Int) < (nr : Int)) := by omega
      have i2 : (2147483647 : Int) < (rn : Int) := by omega
      go_enter Tryz.func3, Tryz.ntmps3
      go_wp2_with fail
      go_ret
      exact ⟨rfl, Kept.refl _ _⟩
  · have i1 : (2147483647 : Int) < (nr : Int) := by omega
    go_enter Tryz.func3, Tryz.ntmps3
    go_wp2_with fail
    go_ret
    exact ⟨rfl, Kept.refl _ _⟩
end Go.Proofs
