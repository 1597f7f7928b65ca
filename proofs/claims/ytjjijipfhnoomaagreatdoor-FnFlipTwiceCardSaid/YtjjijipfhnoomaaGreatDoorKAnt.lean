/-
  arrayContainer.inotClose, inot: a range turned round in an array of numbers.
-/
import Derived.Test.YtjjijipfhnoomaaGreatDoorJAip
import Derived.Test.YtjjijipfhnoomaaGreatDoorJOrb
import Derived.Test.YtjjijipfhnoomaaGreatDoorJNb
import Derived.Test.YtjjijipfhnoomaaGreatDoorJAn
import Derived.BigRegion
namespace Go.Roar
open Go.RowKit Go.Proofs
theorem over_xor {l C : List Nat} {i j : Nat} (_hi : i ≤ l.length) (h : i + C.length = j) : over l i C C.length = l.take i ++ (C ++ l.drop j) := by
  unfold over
  rw [List.take_length, h]
theorem over_cut {l C : List Nat} {i j : Nat} (hi : i ≤ l.length) (_h : i + C.length ≤ j) (hj : j ≤ l.length) : (over (over l i C C.length) (i + C.length) (l.drop j) (l.length - j)).take (i + C.length + (l.length - j)) = l.take i ++ (C ++ l.drop j) := by
  have h1 : (over l i C C.length).take (i + C.length) = l.take i ++ C := by
    unfold over
    rw [← List.append_assoc, List.take_append_of_le_length (by simp; omega), List.take_of_length_le (by simp; omega), List.take_length]
  have h3 : (l.drop j).take (l.length - j) = l.drop j := List.take_of_length_le (by simp)
  have h2 : over (over l i C C.length) (i + C.length) (l.drop j) (l.length - j) = (l.take i ++ (C ++ l.drop j)) ++ (over l i C C.length).drop (i + C.length + (l.length - j)) := by
    conv => lhs; unfold over
    rw [h3]
    rw [show (List.take (i + C.length) (l.take i ++ (C.take C.length ++ l.drop (i + C.length)))) = l.take i ++ C from h1]
    simp only [List.append_assoc]
    rfl
  rw [h2, List.take_append_of_le_length (by simp; omega), List.take_of_length_le (by simp; omega)]
/-- The array made longer, its tail moved. -/
def moved (l : List Nat) (N a j : Nat) : List Nat := (l ++ List.replicate (N - l.length) 0).take a ++ l.drop j
theorem moved_len {l : List Nat} {N a j : Nat} (ha : a ≤ N) (hl : l.length ≤ N) (h : a + (l.length - j) = N) : (moved l N a j).length = N := by
  unfold moved
  simp only [List.length_append, List.length_take, List.length_replicate, List.length_drop]
  omega
theorem moved_splice {l : List Nat} {N a j : Nat} (hl : l.length ≤ N) (h : a + (l.length - j) = N) : splice (u16s (l ++ List.replicate (N - l.length) 0)) a ((u16s l).drop j) = u16s (moved l N a j) := by
  unfold splice moved
  rw [show (u16s (l ++ List.replicate (N - l.length) 0)).drop (a + ((u16s l).drop j).length) = [] from List.drop_of_length_le (by simp [u16s]; omega), List.append_nil]
  simp [u16s, List.map_take, List.map_drop]
theorem moved_low {l : List Nat} {N a j : Nat} (hja : j ≤ a) (hj : j ≤ l.length) (_ha : a ≤ N) (_hl : l.length ≤ N) : ∀ k, k < j → (moved l N a j)[k]? = l[k]? := fun k hk => by
  unfold moved
  rw [List.getElem?_append_left (by simp; omega), List.getElem?_take_of_lt (by omega), List.getElem?_append_left (by omega)]
theorem moved_over {l C : List Nat} {N i j : Nat} (hij : i ≤ j) (hj : j ≤ l.length) (hja : j ≤ i + C.length) (hl : l.length ≤ N) (h : i + C.length + (l.length - j) = N) : over (moved l N (i + C.length) j) i C C.length = l.take i ++ (C ++ l.drop j) := by
  have h1 : (moved l N (i + C.length) j).take i = l.take i := by
    unfold moved
    rw [List.take_append_of_le_length (by simp; omega), List.take_take, Nat.min_eq_left (by omega), List.take_append_of_le_length (by omega)]
  have h2 : (moved l N (i + C.length) j).drop (i + C.length) = l.drop j := by
    unfold moved
    rw [List.drop_append_of_le_length (by simp; omega), List.drop_of_length_le (by simp; omega), List.nil_append]
  unfold over
  rw [h1, h2, List.take_length]
end Go.Roar
namespace Go.Proofs
open Go.RowKit Go.Roar
attribute [local go_sem ↓] Go.wp_at_zero Go.wp_at_succ
theorem toBitS_any (p : Nat) (v : Value) (l : List Nat) (w : World) (hs : Rising l) (hb : ∀ y ∈ l, y < 65536) (h0 : l ≠ []) (hl : l.length ≤ 4096) (h : Parts w (AC p v l)) :
    Calls Tryz.prog 53 #[.pointer (some ⟨p, 0, none⟩)] w fun ed w' => ∃ (q g : Nat) (ws : List Nat), ed = .returned (.pointer (some ⟨q, 0, none⟩)) ∧ ws.length = 1024 ∧ (∀ x ∈ ws, x < 18446744073709551616) ∧ restFrom (bitOf ws) 0 = l ∧ SS w [] w' (BC q l.length (.slice (some ⟨g, 0, none⟩) 1024 1024) ws) := by
  have ho : Own w 1 57 v l.length (u16s l) := h.all (O 1 57 v l.length (u16s l)) (by simp [AC])
  have hB : Blk w p 106 [v] := h.all (B p 106 [v]) (by simp [AC])
  obtain ⟨g, c, rfl, _, _⟩ := Own.shape ho (List.length_pos_iff.2 h0)
  refine (toBitmap_any p g l.length c l w hB ho hb (by omega)).mono ?_
  rintro ed w' ⟨q, g', ws, rfl, a1, a2, a3, a4, a5, a6, a7⟩
  refine ⟨q, g', ws, rfl, a2.1, a2.2.1, bits_nums hs hb a3, ⟨⟨fun A hA => ?_, by simp [BC, B, O]; exact a7⟩, fun b hb => .inr ?_, a4.mono (fun _ _ hk => absurd hk id)⟩⟩
  · simp only [BC, List.mem_cons, List.not_mem_nil, or_false] at hA
    rcases hA with rfl | rfl
    · exact a1
    · exact a2.2.2
  · simp only [BC, B, O, foot_cons, foot_nil, List.append_nil, List.cons_append, List.nil_append, List.mem_cons, blkOf_some, List.not_mem_nil, or_false] at hb
    rcases hb with rfl | rfl <;> omega

set_option maxRecDepth 100000 in
set_option maxHeartbeats 8000000 in
theorem acNotC_any (p : Nat) (v : Value) (l : List Nat) (s e : Nat) (E : Int) (w : World) (hE : E = (e : Int) - 1) (hs : Rising l) (hb : ∀ y ∈ l, y < 65536) (h0 : l ≠ []) (hl : l.length ≤ 4096) (hse : s < e) (he : e ≤ 65536) (h : Parts w (AC p v l)) :
    Calls Tryz.prog 153 #[.pointer (some ⟨p, 0, none⟩), .int .i64 (s : Int), .int .i64 E] w fun ed w' => GiveR (xorS l s e) (foot (AC p v l)) w ed w' := by
  have ho : Own w 1 57 v l.length (u16s l) := h.all (O 1 57 v l.length (u16s l)) (by simp [AC])
  have S0 := SS.init h
  have C1 := bs_own v l s w hs hb (by omega) (by omega) ho
  have C2 := bs_own v l (e - 1) w hs hb (by omega) (by omega) ho
  have HTB := Lib.hid (fun (W : World) (hP : Parts W (AC p v l)) => toBitS_any p v l W hs hb h0 hl hP)
  obtain ⟨g, c, rfl, hc1, hc2⟩ := Own.shape ho (List.length_pos_iff.2 h0)
  have HG := Lib.hid (show ∀ (v' : Value) (W : World), (xorS l s e).length ≤ 4096 → SS w (foot (AC p (.slice (some ⟨g, 0, none⟩) l.length c) l)) W (AC p v' (xorS l s e)) → GiveR (xorS l s e) (foot (AC p (.slice (some ⟨g, 0, none⟩) l.length c) l)) w (.returned (.iface 82 (.pointer (some ⟨p, 0, none⟩)))) W from fun v' W h4 hS => by
    refine ⟨_, _, _, rfl, .inl ?_, hS⟩
    by_cases he0 : xorS l s e = []
    · exact .inr ⟨he0, p, v', rfl, by rw [he0]⟩
    · exact .inl ⟨0, KC.arr p v' _ (xorS_rising hs (Nat.le_of_lt hse)) (xorS_lt hb (Nat.le_of_lt hse) he) he0 h4⟩)
  have HC := Lib.hid (xorS_lb hs s e)
  have hxl := xorS_len hs (Nat.le_of_lt hse)
  have hcl := compl_len hs s (e - s)
  rw [show s + (e - s) = e by omega] at hcl
  obtain ⟨b1, b2⟩ := cut_spots (s := s) (e := e) hs (by omega)
  have hij := lb_monoR hs (Nat.le_of_lt hse)
  have hjn := lb_le l e
  have Hs := Lib.hid hs
  have Hb := Lib.hid hb
  obtain ⟨F, hF⟩ : ∃ F, F = foot (AC p (.slice (some ⟨g, 0, none⟩) l.length c) l) := ⟨_, rfl⟩
  rw [← hF] at S0 HG ⊢
  obtain ⟨i, hi⟩ : ∃ i, i = lb l s := ⟨_, rfl⟩
  obtain ⟨j, hj⟩ : ∃ j, j = lb l e := ⟨_, rfl⟩
  obtain ⟨n, hn⟩ : ∃ n, n = l.length := ⟨_, rfl⟩
  obtain ⟨nv, hnv⟩ : ∃ nv, nv = (compl l s (e - s)).length := ⟨_, rfl⟩
  obtain ⟨m, hm⟩ : ∃ m, m = (xorS l s e).length := ⟨_, rfl⟩
  obtain ⟨J1, hJ1⟩ : ∃ J1, J1 = bsOf l s := ⟨_, rfl⟩
  obtain ⟨J2, hJ2⟩ : ∃ J2, J2 = bsOf l (e - 1) := ⟨_, rfl⟩
  rw [← hi, ← hJ1] at b1
  rw [← hj, ← hJ2] at b2
  rw [← hi, ← hj] at hij hxl
  rw [← hj] at hjn
  rw [← hi, ← hj, ← hnv] at hcl
  rw [← hm, ← hn, ← hnv] at hxl
  rw [← hJ1, ← hn] at C1
  rw [← hn, ← hJ2, show ((e - 1 : Nat) : Int) = E by omega] at C2
  have C1 := Lib.hid C1
  have C2 := Lib.hid C2
  have Hi := Lib.hid hi
  have Hj := Lib.hid hj
  have Hn := Lib.hid hn
  have Hnv := Lib.hid hnv
  have Hm := Lib.hid hm
  have HE := Lib.hid hE
  have hnl : n ≤ 4096 := by omega
  have hnc : n ≤ c := by omega
  have hjn2 : j ≤ n := by omega
  have hm2 : m + (j - i) = n + nv := hxl
  have hc3 : nv + j = (e - s) + i := hcl
  simp only [AC] at S0
  have c0 := S0.cell 0 rfl 0 rfl
  have HS0 := Lib.hid S0
  rw [← hn] at c0
  clear hi hj hn hnv hm hJ1 hJ2 hxl hcl hjn hF ho S0 h hs hb hE h0
  obtain ⟨iU, u1, u2, u3, u4⟩ := info_parts infoU16
  obtain ⟨D1, hD1⟩ : ∃ D1, D1 = e - 1 - s := ⟨_, rfl⟩
  obtain ⟨D, hD⟩ : ∃ D, D = e - s := ⟨_, rfl⟩
  obtain ⟨C9, hC9⟩ : ∃ C9, C9 = compl l s (e - s) := ⟨_, rfl⟩
  obtain ⟨CH, hCH⟩ : ∃ CH : Int, CH = (nv : Int) - (j : Int) + (i : Int) := ⟨_, rfl⟩
  have e1 : IntKind.i64.wrap (E - (s : Int)) = (D1 : Int) := (IntWalk.i64_in _ (by have := HE.out; omega)).trans (by have := HE.out; omega)
  have e2 : IntKind.i64.wrap ((D1 : Int) + 1) = (D : Int) := (IntWalk.i64_in _ (by omega)).trans (by omega)
  have e3 : IntKind.i64.wrap ((D : Int) - ((j : Int) - 1 - (i : Int) + 1)) = (nv : Int) := (IntWalk.i64_in _ (by omega)).trans (by omega)
  have e4 : IntKind.i64.wrap ((nv : Int) - ((j : Int) - 1 - (i : Int) + 1)) = CH := (IntWalk.i64_in _ (by omega)).trans (by omega)
  have e5 : IntKind.i64.wrap ((n : Int) + CH) = (m : Int) := (IntWalk.i64_in _ (by omega)).trans (by omega)
  have hnv9 : nv ≤ 65536 := by omega
  have HD := Lib.hid hD
  have HCH := Lib.hid hCH
  clear hD1 hD hCH
  have i1 : ¬ E < (s : Int) := by have := HE.out; omega
  have wq1 : IntKind.u16.wrap (s : Int) = (s : Int) := IntWalk.u16_in _ (by omega)
  have wq2 : IntKind.u16.wrap E = E := IntWalk.u16_in _ (by have := HE.out; omega)
  go_enter Tryz.func153, Tryz.ntmps153
  go_upto_if 31 with (go_at_call 52; (with_reducible refine C1.out.mono ?_); rintro ed w' ⟨rfl, rfl⟩)
  go_cut [7] (fun s7 wx => s7 = .int .i64 (i : Int) ∧ w = wx)
  case first =>
    rcases b1 with rfl | rfl
    all_goals
      go_wp2
      go_meet
      case rel => exact ⟨int_eq (by omega), rfl⟩
  case rest =>
    obtain ⟨rfl, rfl⟩ := hcut
    go_upto_if 43 with (go_at_call 52; (with_reducible refine C2.out.mono ?_); rintro ed w' ⟨rfl, rfl⟩)
    go_cut [8] (fun s8 wx => s8 = .int .i64 ((j : Int) - 1) ∧ w = wx)
    case first =>
      rcases b2 with ⟨j', rfl, hj'⟩ | rfl
      all_goals
        go_wp2
        go_meet
        case rel => exact ⟨int_eq (by omega), rfl⟩
    case rest =>
      obtain ⟨rfl, rfl⟩ := hcut
      clear b1 b2 C1 C2
      go_upto_region 15 with (first
        | (at_make; refine wpList_make_ss rfl (.tmp 59) (.tmp 59) 59 rfl 57 iU (.int .u16 0) 1 undU16s u1 u2 u3 w F _ HS0.out .i64 .i64 _ _ nv rfl rfl rfl rfl (by rw [u4]; omega) (by unfold maxLen; omega) ?_; rw [made_u16]; intro g2 w2 S2; have HS2 := Lib.hid (show SS w F w2 (NP p g c n g2 nv nv l (List.replicate nv 0)) from (by have h9 := S2.perm (List.perm_append_comm (l₁ := [O 1 57 (.slice (some ⟨g2, 0, none⟩) nv nv) nv (u16s (List.replicate nv 0))])); rw [← Hn.out] at h9; exact h9)); clear S2; have c0 := HS2.out.cell 0 rfl 0 rfl)
        | fail)
      clear e1 e2 e3 HS0 wq1 wq2
      have e6 : IntKind.i64.wrap (E + 1) = (e : Int) := (IntWalk.i64_in _ (by have := HE.out; omega)).trans (by have := HE.out; omega)
      have HCl := Lib.hid (show C9 = compl l s (e - s) ∧ C9.length = nv from ⟨hC9, by rw [hC9]; exact Hnv.out.symm⟩)
      clear hC9
      have e7 : E + 1 = (e : Int) := by have := HE.out; omega
      by_cases hq : nv ≤ j - i
      · as_aux_lemma =>
          have k1 : ¬ (0 : Int) < CH := by have := HCH.out; omega
          have NG := Lib.hid (negate_any p g c n g2 nv nv i j s e ((j : Int) - 1) l l (List.replicate nv 0) w2 Hs.out Hb.out Hi.out Hj.out rfl hse he Hn.out.symm (by omega) (fun _ _ => rfl) (by omega) Hnv.out (by simp) HS2.out.sep)
          rw [← HCl.out.1] at NG
          go_upto_region 27 with (first
            | (go_at_call 159; (with_reducible refine NG.out.mono ?_); rintro ed w3 ⟨rfl, s3⟩; have HS3 := Lib.hid (HS2.out.on s3); clear s3)
            | fail)
          clear NG HS2 c0
          have c1 := HS3.out.cell 0 rfl 0 rfl
          have f1 := HS3.out.free 0 rfl 0
          by_cases hq2 : nv = j - i
          · have k2 : ¬ CH < 0 := by have := HCH.out; omega
            have hmn : m = n := by omega
            have s1 := fun (W : World) => run_slice_to (P := Tryz.prog) W undU16s szU16 (some ⟨g, 0, none⟩) n c m .i64 (m : Int) rfl (by omega)
            go_wp2_with fail
            go_ret
            refine HG.out (.slice (some ⟨g, 0, none⟩) m c) _ (by have := Hm.out; omega) ?_
            have S4 := SS.store (L := []) HS3.out 0 (.slice (some ⟨g, 0, none⟩) m c)
            have hX : over l i C9 nv = xorS l s e := by
              rw [HC.out, ← Hi.out, ← Hj.out, ← HCl.out.1, ← HCl.out.2]
              exact over_xor (by rw [← Hn.out]; omega) (by rw [HCl.out.2]; omega)
            rw [hX, hmn] at S4
            have h9 := SS.left (L := [B p 106 [.slice (some ⟨g, 0, none⟩) n c], O 1 57 (.slice (some ⟨g, 0, none⟩) n c) n (u16s (xorS l s e))]) S4
            unfold AC
            rw [← Hm.out, hmn]
            exact h9
          · have k2 : CH < 0 := by have := HCH.out; omega
            obtain ⟨DD, hDD⟩ : ∃ DD, DD = j - i - nv := ⟨_, rfl⟩
            have hCD : CH = -(DD : Int) := by have := HCH.out; omega
            have HDD := Lib.hid hDD
            have HCD := Lib.hid hCD
            have hmm : m = i + nv + (n - j) := by omega
            have HZ0 := Lib.hid (show (over l i C9 nv).length = n from by rw [← HCl.out.2, over_len (Nat.le_refl _) (by rw [HCl.out.2, ← Hn.out]; omega)]; exact Hn.out.symm)
            have HS4 := Lib.hid (show SS w F w3 (NP p g c n g2 nv nv (over (over l i C9 nv) (i + nv) (l.drop j) 0) C9) from by rw [over_zero]; exact HS3.out)
            clear HS3 c1 f1 hDD hCD k1
            have HMM := Lib.hid hmm
            clear hmm
            go_wp2_with fail
            go_loopw [17] (fun x wr => ∃ k : Nat, x = .int .i64 ((i + nv + k : Nat) : Int) ∧ k ≤ n - j ∧ Hid (SS w F wr (NP p g c n g2 nv nv (over (over l i C9 nv) (i + nv) (l.drop j) k) C9))) (fun x _ => m - (intOf x).toNat)
            case atStart => exact ⟨0, by go_num, Nat.zero_le _, HS4⟩
            case round =>
              clear HS4
              obtain ⟨k, rfl, hk, HS⟩ := hrel
              have hmm := HMM.out
              have hdl : (l.drop j).length = n - j := by rw [List.length_drop, ← Hn.out]
              by_cases hk2 : k < n - j
              · have i5 : ((i + nv + k : Nat) : Int) < (m : Int) := by omega
                have e8 : IntKind.i64.wrap (((i + nv + k : Nat) : Int) - CH) = ((j + k : Nat) : Int) := (IntWalk.i64_in _ (by have := HCD.out; have := HDD.out; omega)).trans (by have := HCD.out; have := HDD.out; omega)
                obtain ⟨y, hy⟩ : ∃ y, (l.drop j)[k]? = some y := ⟨_, List.getElem?_eq_getElem (by rw [hdl]; exact hk2)⟩
                have hol : (over (over l i C9 nv) (i + nv) (l.drop j) k).length = n := by rw [over_len (by rw [hdl]; omega) (by rw [hdl, HZ0.out]; omega), HZ0.out]
                have hsrc : (over (over l i C9 nv) (i + nv) (l.drop j) k)[j + k]? = some y := by
                  have hz : (over (over l i C9 nv) (i + nv) (l.drop j) k)[j + k]? = (over l i C9 nv)[j + k]? := by
                    have hz0 := HZ0.out
                    generalize over l i C9 nv = Z at *
                    unfold over
                    rw [← List.append_assoc, List.getElem?_append_right (by simp only [List.length_append, List.length_take, List.length_drop]; omega), List.getElem?_drop]
                    congr 1
                    simp only [List.length_append, List.length_take, List.length_drop]
                    have := Hn.out
                    omega
                  have hz2 : (over l i C9 nv)[j + k]? = l[j + k]? := by
                    have h5 := HCl.out.2
                    have := Hn.out
                    unfold over
                    rw [← List.append_assoc, List.getElem?_append_right (by simp only [List.length_append, List.length_take]; omega), List.getElem?_drop]
                    congr 1
                    simp only [List.length_append, List.length_take]
                    omega
                  rw [hz, hz2, ← List.getElem?_drop]
                  exact hy
                obtain ⟨z, hz⟩ : ∃ z, (over (over l i C9 nv) (i + nv) (l.drop j) k)[i + nv + k]? = some z := ⟨_, List.getElem?_eq_getElem (by rw [hol]; omega)⟩
                have f0 := HS.out.cell 0 rfl 0 rfl
                have ca := Own.cellAt (HS.out.get (A := O 1 57 (.slice (some ⟨g, 0, none⟩) n c) n (u16s (over (over l i C9 nv) (i + nv) (l.drop j) k))) (by simp [NP])) (u16s_get hsrc)
                have cb := Own.cellAt (HS.out.get (A := O 1 57 (.slice (some ⟨g, 0, none⟩) n c) n (u16s (over (over l i C9 nv) (i + nv) (l.drop j) k))) (by simp [NP])) (u16s_get hz)
                have HS5 := Lib.hid (SS.storeO (L := [B p 106 [.slice (some ⟨g, 0, none⟩) n c]]) (R := [O 1 57 (.slice (some ⟨g2, 0, none⟩) nv nv) nv (u16s C9)]) HS.out.drew (i + nv + k) (by simp [hol]; omega) (.int .u16 (y : Int)))
                rw [u16s_set, over_set hy (by rw [hdl, HZ0.out]; omega)] at HS5
                have f0d := HS.out.drew.cell 0 rfl 0 rfl
                have i6 : ((j + k : Nat) : Int) < (n : Int) := by omega
                have i7 : ((i + nv + k : Nat) : Int) < (n : Int) := by omega
                obtain ⟨X1, hX1⟩ : ∃ X1, X1 = i + nv + k := ⟨_, rfl⟩
                obtain ⟨X2, hX2⟩ : ∃ X2, X2 = j + k := ⟨_, rfl⟩
                rw [← hX1] at i5 e8 cb HS5 i7 ⊢
                rw [← hX2] at e8 ca i6
                have HX1 := Lib.hid hX1
                clear hy hsrc hz hol hX1 hX2 hdl hmm
                go_upto_region 31 with fail
                go_region
                all_goals
                  go_wp2_with fail
                  go_roundw
                  case rel => exact ⟨k + 1, by have := HX1.out; go_num, by omega, HS5⟩
                  case measure => have := HX1.out; simp only [intOf]; omega
              · have hkn : k = n - j := by omega
                subst hkn
                have i5 : ¬ ((i + nv + (n - j) : Nat) : Int) < (m : Int) := by omega
                have c1 := HS.out.cell 0 rfl 0 rfl
                have f1 := HS.out.free 0 rfl 0
                have s1 := fun (W : World) => run_slice_to (P := Tryz.prog) W undU16s szU16 (some ⟨g, 0, none⟩) n c m .i64 (m : Int) rfl (by omega)
                clear hmm
                go_wp2_with fail
                go_ret
                refine HG.out (.slice (some ⟨g, 0, none⟩) m c) _ (by have := Hm.out; omega) ?_
                have S4 := SS.store (L := []) HS.out 0 (.slice (some ⟨g, 0, none⟩) m c)
                obtain ⟨ys, -, -, hy, S5⟩ := SS.reslice (L := [B p 106 [.slice (some ⟨g, 0, none⟩) m c]]) (R := [O 1 57 (.slice (some ⟨g2, 0, none⟩) nv nv) nv (u16s C9)]) (m := m) S4 (by omega)
                have hmm := HMM.out
                have hX : ys = u16s (xorS l s e) := by
                  rw [hy (by omega), Nat.mul_one, HC.out, ← Hi.out, ← Hj.out, ← HCl.out.1, ← over_cut (l := l) (C := C9) (i := i) (j := j) (by rw [← Hn.out]; omega) (by rw [HCl.out.2]; omega) (by rw [← Hn.out]; omega), HCl.out.2, ← Hn.out, hmm]
                  simp [u16s, List.map_take]
                rw [hX] at S5
                have h9 := SS.left (L := [B p 106 [.slice (some ⟨g, 0, none⟩) m c], O 1 57 (.slice (some ⟨g, 0, none⟩) m c) m (u16s (xorS l s e))]) S5
                unfold AC
                rw [← Hm.out]
                exact h9
      · have k1 : (0 : Int) < CH := by have := HCH.out; omega
        have hmn : n < m := by omega
        have j5 : (n : Int) < (m : Int) := by omega
        by_cases h4 : m ≤ 4096
        · as_aux_lemma =>
            have j6 : ¬ (4096 : Int) < (m : Int) := by omega
            have CO := Lib.hid (copyOf_any g c n m l w2 (HS2.out.get (A := O 1 57 (.slice (some ⟨g, 0, none⟩) n c) n (u16s l)) (by simp [NP])) Hn.out.symm (by omega) (by omega))
            have f0 := HS2.out.free 0 rfl 0
            go_upto_region 23 with (first
              | (go_at_call 158; (with_reducible refine CO.out.mono ?_); rintro ed w3 ⟨g3, rfl, s3⟩; have HS3 := Lib.hid (HS2.out.join s3); have c1 := HS3.out.cell 1 rfl 0 rfl; have f1 := HS3.out.free 1 rfl 0; clear s3)
              | fail)
            have HS4 := Lib.hid (SS.store (L := [O 1 57 (.slice (some ⟨g3, 0, none⟩) m m) m (u16s (l ++ List.replicate (m - n) 0))]) HS3.out 0 (.slice (some ⟨g3, 0, none⟩) m m))
            have HS5 := Lib.hid (show SS w F _ ([B p 106 [.slice (some ⟨g3, 0, none⟩) m m], O 1 57 (.slice (some ⟨g2, 0, none⟩) nv nv) nv (u16s (List.replicate nv 0))] ++ O 1 57 (.slice (some ⟨g3, 0, none⟩) m m) m (u16s (l ++ List.replicate (m - n) 0)) :: []) from (HS4.out.perm (M := [O 1 57 (.slice (some ⟨g, 0, none⟩) n c) n (u16s l)] ++ ([B p 106 [.slice (some ⟨g3, 0, none⟩) m m], O 1 57 (.slice (some ⟨g2, 0, none⟩) nv nv) nv (u16s (List.replicate nv 0))] ++ [O 1 57 (.slice (some ⟨g3, 0, none⟩) m m) m (u16s (l ++ List.replicate (m - n) 0))])) (by
              refine List.Perm.trans (List.perm_append_comm (l₁ := [O 1 57 (.slice (some ⟨g3, 0, none⟩) m m) m (u16s (l ++ List.replicate (m - n) 0))])) ?_
              simp only [List.cons_append, List.nil_append]
              exact List.Perm.swap _ _ _)).right)
            clear HS3 HS2 HS4 c0 f0 c1 f1 CO
            generalize (w3.setCell ⟨p, 0, none⟩ (.slice (some ⟨g3, 0, none⟩) m m)) = w4 at *
            have hda := HS5.out.drew.cell 0 rfl 0 rfl
            have ho3 := HS5.out.drew.get (A := O 1 57 (.slice (some ⟨g3, 0, none⟩) m m) m (u16s (l ++ List.replicate (m - n) 0))) (by simp)
            have Ho3 := Lib.hid ho3
            clear ho3
            have wj : IntKind.i64.wrap (j : Int) = (j : Int) := IntWalk.i64_in _ (by omega)
            have wk1 : IntKind.i64.wrap (IntKind.i64.wrap (j : Int) + CH) = ((i + nv : Nat) : Int) := by rw [wj]; exact (IntWalk.i64_in _ (by have := HCH.out; omega)).trans (by have := HCH.out; omega)
            have wk2 : IntKind.i64.wrap (IntKind.i64.wrap (IntKind.i64.wrap ((j : Int) + (m : Int)) - 1) - ((j : Int) - 1)) = (m : Int) := by
              rw [IntWalk.i64_in ((j : Int) + (m : Int)) (by omega), IntWalk.i64_in _ (by omega : -9223372036854775808 ≤ (j : Int) + (m : Int) - 1 ∧ (j : Int) + (m : Int) - 1 ≤ 9223372036854775807)]
              exact (IntWalk.i64_in _ (by omega)).trans (by omega)
            have s1 := fun (W : World) => run_cut_both (P := Tryz.prog) W undU16s szU16 g3 0 m m j m .i64 .i64 (j : Int) (IntKind.i64.wrap (IntKind.i64.wrap (IntKind.i64.wrap ((j : Int) + (m : Int)) - 1) - ((j : Int) - 1))) rfl wk2 (by omega) (Nat.le_refl _)
            have s2 := fun (W : World) => run_slice_from (P := Tryz.prog) W undU16s szU16 g3 0 m m (i + nv) .i64 (IntKind.i64.wrap (IntKind.i64.wrap (j : Int) + CH)) wk1 (by omega)
            clear wj wk1 wk2
            go_upto_region 24 with fail
            refine wp_region_tail 25 (by kernel_rfl) (by decide +kernel) ?_
            simp only [List.take_succ_cons, List.take_zero, List.drop_succ_cons, List.drop_zero]
            repeat still_step
            refine wpStill_nil ?_
            show wpList _ _ _ _ _ _
            have hmj : m = i + nv + (n - j) := by omega
            have HSR := Lib.hid (show ∀ (a : Nat) (v : Value), ((u16s l).drop j)[a]? = some v → w4.drew.cell? ((tlA g3 0 j m 1).add a) = some v from Own.src Ho3.out j 1 (by omega) _ (fun a v ha => by
              have h9 := drop_src0 a v ha
              rw [show u16s (l ++ List.replicate (m - n) 0) = u16s l ++ u16s (List.replicate (m - n) 0) by simp [u16s]]
              rw [List.getElem?_append_left (List.getElem?_eq_some_iff.1 h9).1]
              exact h9))
            have HLN := Lib.hid (show ((u16s l).drop j).length = (n - j) * 1 ∧ i + nv + ((u16s l).drop j).length ≤ (u16s (l ++ List.replicate (m - n) 0)).length from by
              have := Hn.out
              constructor
              · simp [u16s]; omega
              · simp [u16s]; omega)
            clear s1 s2
            go_upto_region 25 with (first
              | (refine wpList_copy_ss rfl (.tmp 116) (.tmp 132) 59 59 rfl 57 1 undU16s szU16 w F [B p 106 [.slice (some ⟨g3, 0, none⟩) m m], O 1 57 (.slice (some ⟨g2, 0, none⟩) nv nv) nv (u16s (List.replicate nv 0))] [] g3 m m (u16s (l ++ List.replicate (m - n) 0)) HS5.out.drew (some (tlA g3 0 (i + nv) m 1)) (some (tlA g3 0 j m 1)) (m - (i + nv)) (m - (i + nv)) (m - j) (m - j) ?_ ?_ (i + nv) (n - j) ((u16s l).drop j) ?_ ?_ ?_ ?_ ?_ ?_; rfl; rfl; exact (by omega : n - j = m - (i + nv)).trans (Nat.min_eq_right (by omega)).symm; exact HLN.out.1; exact (fun h0 => ⟨tl_some1 (by omega), _, rfl, HSR.out⟩); exact HLN.out.2; exact (fun v hv => u16s_one l v (List.mem_of_mem_drop hv)); intro w6 S6; have HS6 := Lib.hid S6; clear S6)
              | fail)
            have HS7 := Lib.hid (show SS w F w6 (NP p g3 m m g2 nv nv (moved l m (i + nv) j) (List.replicate nv 0)) from by
              have h9 := HS6.out
              rw [Hn.out, moved_splice (by rw [← Hn.out]; omega) (by rw [← Hn.out]; omega)] at h9
              exact h9.perm (by
                simp only [List.cons_append, List.nil_append]
                exact List.Perm.cons _ (List.Perm.swap _ _ _)))
            have hln : l.length ≤ m := by rw [← Hn.out]; omega
            have NG := Lib.hid (negate_any p g3 m m g2 nv nv i j s e ((j : Int) - 1) l (moved l m (i + nv) j) (List.replicate nv 0) w6 Hs.out Hb.out Hi.out Hj.out rfl hse he (moved_len (by omega) hln (by rw [← Hn.out]; omega)) (by omega) (moved_low (by omega) (by rw [← Hn.out]; omega) (by omega) hln) (by omega) Hnv.out (by simp) HS7.out.sep)
            rw [← HCl.out.1] at NG
            have HMJ := Lib.hid hmj
            clear HS5 HS6 hda Ho3 hmj
            go_upto_region 32 with (first
              | (go_at_call 159; (with_reducible refine NG.out.mono ?_); rintro ed w7 ⟨rfl, s7⟩; have HS8 := Lib.hid (HS7.out.on s7); clear s7)
              | fail)
            clear NG HS7
            have c1 := HS8.out.cell 0 rfl 0 rfl
            have f1 := HS8.out.free 0 rfl 0
            have s1 := fun (W : World) => run_slice_to (P := Tryz.prog) W undU16s szU16 (some ⟨g3, 0, none⟩) m m m .i64 (m : Int) rfl (Nat.le_refl _)
            go_wp2_with fail
            go_ret
            refine HG.out (.slice (some ⟨g3, 0, none⟩) m m) _ (by have := Hm.out; omega) ?_
            have S9 := SS.store (L := []) HS8.out 0 (.slice (some ⟨g3, 0, none⟩) m m)
            have hmj := HMJ.out
            have hX : over (moved l m (i + nv) j) i C9 nv = xorS l s e := by
              rw [HC.out, ← Hi.out, ← Hj.out, ← HCl.out.1, ← HCl.out.2]
              exact moved_over hij (by rw [← Hn.out]; omega) (by rw [HCl.out.2]; omega) hln (by rw [HCl.out.2, ← Hn.out]; omega)
            rw [hX] at S9
            have h9 := SS.left (L := [B p 106 [.slice (some ⟨g3, 0, none⟩) m m], O 1 57 (.slice (some ⟨g3, 0, none⟩) m m) m (u16s (xorS l s e))]) S9
            unfold AC
            rw [← Hm.out]
            exact h9
        · as_aux_lemma =>
            have j6 : (4096 : Int) < (m : Int) := by omega
            have hbig : 4096 < (xorS l s e).length := by rw [← Hm.out]; omega
            have P2 : Parts w2 (AC p (.slice (some ⟨g, 0, none⟩) l.length c) l) := by
              have h9 := (SS.left (L := [B p 106 [.slice (some ⟨g, 0, none⟩) n c], O 1 57 (.slice (some ⟨g, 0, none⟩) n c) n (u16s l)]) HS2.out).sep
              rw [Hn.out] at h9
              exact h9
            have TB := Lib.hid (HTB.out w2 P2)
            have HB9 := Lib.hid hbig
            clear P2 hbig
            go_wp2_with (first
              | (go_at_call 53; (with_reducible refine TB.out.mono ?_); rintro ed w3 ⟨q, gb, ws, rfl, t1, t2, t3, s3⟩; have S3 := Lib.hid (HS2.out.join s3); have NB := Lib.hid (bcNotB_any q gb 1024 ws l s e w3 t1 t2 t3 hse he s3.sep); clear t1 t2 t3 s3)
              | (go_at_call 156; (with_reducible refine NB.out.mono ?_); rintro ed w4 ⟨-, hbg⟩; obtain ⟨ws', rfl, t4, t5, t6, s4⟩ := hbg HB9.out; have S4 := Lib.hid (S3.out.frame s4); have T4 := Lib.hid (And.intro t4 (And.intro t5 t6)); have TA := Lib.hid (bcToArr_any q gb 1024 ws' (xorS l s e) w4 t4 t5 t6 s4.sep); clear t4 t5 t6 s4 hbg)
              | (go_at_call 157; (with_reducible refine TA.out.mono ?_); rintro ed w5 ⟨q2, v2, rfl, s5⟩; obtain ⟨g5, c5, rfl, _, _⟩ := Own.shape (s5.get (A := O 1 57 v2 (xorS l s e).length (u16s (xorS l s e))) (by simp [AC])) (Nat.lt_of_le_of_lt (Nat.zero_le _) HB9.out); have S5 := Lib.hid (S4.out.join s5); have d0 := S5.out.cell 0 rfl 0 rfl; have d1 := S5.out.cell 4 rfl 0 rfl; have d2 := S5.out.free 4 rfl 0; clear s5)
              | fail)
            go_ret
            have S6 := SS.store (L := AC q2 (.slice (some ⟨g5, 0, none⟩) (xorS l s e).length c5) (xorS l s e) ++ BC q (xorS l s e).length (.slice (some ⟨gb, 0, none⟩) 1024 1024) ws') (R := [O 1 57 (.slice (some ⟨g, 0, none⟩) n c) n (u16s l), O 1 57 (.slice (some ⟨g2, 0, none⟩) nv nv) nv (u16s (List.replicate nv 0))]) S5.out 0 (.slice (some ⟨g5, 0, none⟩) (xorS l s e).length c5)
            exact ⟨_, _, _, rfl, .inl (.inl ⟨1, KC.bmp q gb 1024 ws' _ T4.out.1 T4.out.2.1 HB9.out T4.out.2.2⟩), S6.left.right⟩

theorem acNot_any (p : Nat) (v : Value) (l : List Nat) (s e : Nat) (w : World) (hs : Rising l) (hb : ∀ y ∈ l, y < 65536) (h0 : l ≠ []) (hl : l.length ≤ 4096) (hse : s < e) (he : e ≤ 65536) (h : Parts w (AC p v l)) :
    Calls Tryz.prog 122 #[.pointer (some ⟨p, 0, none⟩), .int .i64 (s : Int), .int .i64 (e : Int)] w fun ed w' => GiveR (xorS l s e) (foot (AC p v l)) w ed w' := by
  have C := Lib.hid (acNotC_any p v l s e ((e : Int) - 1) w rfl hs hb h0 hl hse he h)
  have i1 : ¬ (e : Int) ≤ (s : Int) := by omega
  have q1 : IntKind.i64.wrap ((e : Int) - 1) = (e : Int) - 1 := IntWalk.i64_in _ (by omega)
  clear h hs hb
  go_enter Tryz.func122, Tryz.ntmps122
  go_wp2_with (first
    | (go_at_call 153; (with_reducible refine C.out.mono ?_); rintro ed w1 ⟨t, v, L, rfl, q1, q2⟩)
    | fail)
  go_ret
  exact ⟨t, v, L, rfl, q1, q2⟩
end Go.Proofs
