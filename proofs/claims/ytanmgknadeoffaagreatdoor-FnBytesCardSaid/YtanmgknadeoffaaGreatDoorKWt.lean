/-
  roaringArray.writeTo.
-/
import Derived.Test.YtanmgknadeoffaaGreatDoorJWbc
import Derived.Test.YtanmgknadeoffaaGreatDoorJHr
import Derived.Test.YtanmgknadeoffaaGreatDoorKCr
import Derived.Deep.RegionHeld3
import Derived.Deep.DeepCutAuto
import Derived.Laws.BitsAllLaws
import Derived.Laws.BitsLemmas
namespace Go.Proofs
open Go.RowKit Go.Roar

set_option maxRecDepth 100000 in
set_option maxHeartbeats 1000000 in
theorem sizeCard_any (c : Nat) (w : World) (hc : c ≤ 65536) :
    Calls Tryz.prog 71 #[.int .i64 (c : Int)] w fun e w' => e = .returned (.int .i64 ((if c ≤ 4096 then 2 * c else 8192 : Nat) : Int)) ∧ w = w' := by
  by_cases h : c ≤ 4096
  · rw [if_pos h]
    have i1 : ¬ (4096 : Int) < (c : Int) := by omega
    go_enter Tryz.func71, Tryz.ntmps71
    go_wp2
    go_ret
    exact ⟨ret_int (by omega), rfl⟩
  · rw [if_neg h]
    have i1 : (4096 : Int) < (c : Int) := by omega
    go_enter Tryz.func71, Tryz.ntmps71
    go_wp2
    go_ret
    exact ⟨rfl, rfl⟩

theorem run_cut_to {P : Program} (w : World) {t e : TypeId} (ht : P.underlying t = some (.slice e)) (hs : (P.info? e).map (·.size) = some 1) (g o len cap h : Nat) (k' : IntKind) (j' : Int) (hj' : j' = (h : Int)) (hh : h ≤ cap) :
    (Instr.slice t (.slice (some ⟨g, o, none⟩) len cap) none (some (.int k' j')) none).run P w = .ok (.slice (some ⟨g, o, none⟩) h cap) w := by
  subst hj'
  cases hq : P.info? e with
  | none => simp [hq] at hs
  | some i =>
    have hi : i.size = 1 := by simpa [hq] using hs
    simp only [Instr.slice, Sem.run_bind, run_underlying ht, Result.andThen_ok, Instr.sliceBounds, Instr.sliceBound]
    simp [sizeOf, typeInfo, hq, hh, hi, asIntOf, go_sem]
/-- A container that is not of runs: how many numbers it has, the bytes that they take. -/
theorem kc_plain {c : Value} {l : List Nat} {k : Nat} {L : List HA} (h : KC c l k L) (hk : k ≠ 2) : ∃ (tt : TypeId) (a : Addr) (fn : Nat), c = .iface tt (.pointer (some a)) ∧
    (∀ w, (nilAhead 368 tt (.pointer (some a)) "loop.example/pub-g03248/pub/roaring.getCardinality").run Tryz.prog w = .ok (some false) w) ∧
    (∀ w, (method 368 tt (.pointer (some a)) "loop.example/pub-g03248/pub/roaring.getCardinality").run Tryz.prog w = .ok (fn, .pointer (some a)) w) ∧
    (∀ (w : World), (callFunc fn #[.pointer (some a)]).run Tryz.prog w = .ok (.enter fn #[.pointer (some a)]) w) ∧
    (∀ (w : World), Parts w L → Calls Tryz.prog fn #[.pointer (some a)] w fun ed w' => ed = .returned (.int .i64 (l.length : Int)) ∧ Mild w w') ∧
    (∀ (W : World), (Instr.typeAssert (.iface tt (.pointer (some a))) 83 141 true).run Tryz.prog W = .ok (.tuple #[.pointer none, .bool false]) W) ∧
    (if k = 0 then 2 * l.length else if k = 1 then 8192 else 2 + 4 * (runsOf l).length) = if l.length ≤ 4096 then 2 * l.length else 8192 := by
  obtain ⟨tt, a, fn, e, n1, n2, n3, hC⟩ := kc_card h
  refine ⟨tt, a, fn, e, n1, n2, n3, hC, ?_, ?_⟩
  · obtain ⟨z, ⟨_, e2⟩ | ⟨_, e2⟩ | ⟨e1, _⟩⟩ := h.kind
    · rw [e] at e2
      simp only [Value.iface.injEq] at e2
      obtain ⟨rfl, e2⟩ := e2
      exact fun W => as_ar _ W
    · rw [e] at e2
      simp only [Value.iface.injEq] at e2
      obtain ⟨rfl, e2⟩ := e2
      exact fun W => as_br _ W
    · exact absurd e1 hk
  · rcases h.kindOf with h2 | h2
    · exact absurd h2 hk
    · by_cases h4 : l.length ≤ 4096
      · rw [if_pos h4] at h2 ⊢; rw [if_pos h2]
      · rw [if_neg h4] at h2 ⊢; rw [if_neg (by omega), if_pos h2]

/-- A container of runs: its slice of intervals. -/
theorem kc_iv {c : Value} {l : List Nat} {L : List HA} {w : World} (h : KC c l 2 L) (hp : Parts w L) : ∃ (z m c' : Nat) (G : Option Addr), c = .iface 141 (.pointer (some ⟨z, 0, none⟩)) ∧ w.cell? ⟨z, 0, none⟩ = some (.slice G m c') ∧ m = (runsOf l).length ∧ m ≤ 32768 := by
  cases h with
  | run p v rs _ hr h0 hx =>
    have hB : Blk w p 140 [v] := hp.all (Go.Roar.B p 140 [v]) (by simp [RC])
    have ho := hp.all (O 2 178 v rs.length (ivs rs)) (by simp [RC])
    have hlen := rg_length rs 0 hr (fun _ _ => Nat.zero_le _) (by omega)
    obtain ⟨G, c, rfl, _⟩ := Own.sliceOf ho
    exact ⟨p, rs.length, c, G, rfl, hB.cell 0, by rw [← hx, runsOf_back hr], by omega⟩

set_option maxRecDepth 100000 in
set_option maxHeartbeats 16000000 in
theorem raWrite_any (p : Nat) (t : TypeId) (vk vc vw : Value) (q : List Kon) (B b : Nat) (w : World) (ok : OKP (psOf q)) (h : Parts w (BMP p t vk vc vw q)) (hqr : QR w B p q) (hI : Bf w B b []) (hs : (bytesOf q).length ≤ 10000000) :
    Calls Tryz.prog 49 #[.pointer (some ⟨p, 0, none⟩), .iface 114 (.pointer (some ⟨b, 0, none⟩))] w fun e w' => WrP B b [] (bytesOf q) w e w' := by
  obtain ⟨iU, zu1, zu2, zu3, zu4⟩ := info_parts infoByte
  have hq := kon_len ok
  have C := Lib.hid (raHasRun_any p t vk vc vw q w hq h)
  have e0 : (q.map (·.k)).any (· == 2) = anyRuns (kdOf q) := rfl
  rw [e0] at C
  have HQ := Lib.hid hqr
  obtain ⟨⟨GK, cK, kk, hkk⟩, ⟨GV, cV, vv, hvv⟩, hkons, hpB⟩ := hqr
  have Hkk := Lib.hid hkk
  have Hvv := Lib.hid hvv
  have HK := Lib.hid hkons
  have HI := Lib.hid hI
  have hbl := hI.lt
  have hBb := hI.le
  have hww := whole_kon ok
  have hbl2 := bytesOf_length ok
  have hoff := offsOf_kon q
  have hHl := headOf_length (kdOf q)
  have hkat : ∀ (i : Nat) (x : Kon), q[i]? = some x → (kdOf q)[i]? = some x.k := fun i x hx => by unfold kdOf; rw [List.getElem?_map, hx]; rfl
  have hsz := fun (x : Kon) (hx : x ∈ q) => konBody_length q ok hx
  have hkd := kdOf_length q
  have hok2 := ok.2
  have Hok := Lib.hid (fun (x : Kon) (hx : x ∈ q) => hok2 (x.key, x.l) (List.mem_map.2 ⟨x, hx, rfl⟩))
  have hoff2 : bytesOf q = headOf (kdOf q) ++ descTo q q.length ++ offsOf (qsOf q) (kdOf q) ++ bodTo q q.length := hww
  rw [hkd] at hHl
  have hn1 : anyRuns (kdOf q) = true → 1 ≤ q.length := fun hr => by
    rw [← hkd]
    rcases Nat.eq_zero_or_pos (kdOf q).length with h0 | h0
    · rw [List.eq_nil_of_length_eq_zero h0] at hr; cases hr
    · exact h0
  have Hkat := Lib.hid hkat
  have Hsz := Lib.hid hsz
  have Hww := Lib.hid hoff2
  have Hoff := Lib.hid hoff
  have Hlen := Lib.hid hbl2
  have Hdl := Lib.hid (fun (k : Nat) (hk : k ≤ q.length) => descTo_len hk)
  clear ok h hkk hvv hkons hI hww hoff2 hoff hbl2 hkat hsz hok2
  generalize hkdd : kdOf q = kd at *
  have Hkd := Lib.hid hkd
  generalize hrn : anyRuns kd = rn at *
  have Hrn := Lib.hid hrn
  generalize hn : q.length = n at *
  have Hn := Lib.hid hn
  obtain ⟨HD, hHD⟩ : ∃ HD, HD = headOf kd := ⟨_, rfl⟩
  rw [← hHD] at hHl
  have HHD := Lib.hid hHD
  obtain ⟨H, hH⟩ : ∃ H, H = HD.length := ⟨_, rfl⟩
  rw [← hH] at hHl
  have HH := Lib.hid hH
  obtain ⟨fl, hfl⟩ : ∃ fl, fl = (n + 7) / 8 := ⟨_, rfl⟩
  rw [← hfl] at hHl
  have Hfl := Lib.hid hfl
  obtain ⟨N, hN⟩ : ∃ N, N = H + 4 * n + 4 * n := ⟨_, rfl⟩
  have HN := Lib.hid hN
  have HHl := Lib.hid hHl
  have Hn1 := Lib.hid hn1
  have Hs := Lib.hid hs
  have hNle : N ≤ 600000 := by have := HHl.out; split at this <;> omega
  have hN8 : 4 < N := by have := HHl.out; cases rn <;> simp at * <;> omega
  have f1 : ((n : Int) + 7).tdiv 8 = (fl : Int) := by rw [Int.tdiv_eq_ediv_of_nonneg (by omega)]; omega
  have Hkl := Lib.hid hkd
  have f2 : IntKind.i64.wrap (fl : Int) = (fl : Int) := IntWalk.i64_in _ (by omega)
  clear hkd hkdd hrn hn hHD hH hfl hN hHl hn1 hs
  go_enter Tryz.func49, Tryz.ntmps49
  go_upto_if 31 with (first
    | (go_at_call 68; refine C.out.mono ?_; rintro ed w1 ⟨rfl, rfl⟩)
    | fail)
  go_cut [7, 8] (fun s7 s8 wx => ∃ a c : Nat, s7 = .int .i64 (a : Int) ∧ s8 = .int .i64 (c : Int) ∧ Hid (a + c = H) ∧ Hid (rn = true → a = fl) ∧ a ≤ 20000 ∧ c ≤ 8 ∧ w = wx)
  case first =>
    cases rn
    · go_wp2_with fail
      go_meet
      case rel => exact ⟨0, 8, rfl, rfl, Lib.hid (by rw [HHl.out]; rfl), Lib.hid (fun h => by cases h), by omega, by omega, rfl⟩
    · go_wp2_with fail
      go_meet
      case rel => exact ⟨fl, 4, by first | rfl | rw [f1] | exact congrArg _ f2, rfl, Lib.hid (by rw [HHl.out, if_pos rfl]; omega), Lib.hid (fun _ => rfl), by have := Hfl.out; omega, by omega, rfl⟩
  case rest =>
    obtain ⟨a, c, rfl, rfl, Hac, Ha, ha9, hc9, rfl⟩ := hcut
    clear f1 f2
    go_upto_if 59 with (first
      | (at_make; refine wpList_make_blk rfl (.tmp 57) (.tmp 57) 27 rfl 5 iU (.int .u8 0) 1 undU8s zu1 zu2 zu3 .i64 .i64 _ _ N rfl rfl (by have := HN.out; have := Hac.out; omega) (by have := HN.out; have := Hac.out; omega) (by rw [zu4]; omega) (by unfold maxLen; omega) ?_; intro w1 hbk hk hsz))
    rw [made_u8s] at hbk
    obtain ⟨D, hD⟩ : ∃ D, D = w.heap.size := ⟨_, rfl⟩
    rw [← hD] at hbk ⊢
    have HDw := Lib.hid hD
    clear hD
    have Hbk : Hid (Blk w1 D 5 (u8s (fil [] N))) := Lib.hid (by rw [fil_nil]; exact hbk)
    have Hk1 := Lib.hid hk
    clear hbk hk
    have kk1 := Hk1.out.cell2 id kk
    have vv1 := Hk1.out.cell2 id vv
    go_cut [12, 13, 14, 15] (fun s12 s13 s14 s15 wx => s12 = .int .i64 (H : Int) ∧ Hid (Mild w wx) ∧ Hid (Blk wx D 5 (u8s (fil HD N))))
    case first =>
      have sl0 := fun (W : World) => run_cut_from (P := Tryz.prog) W undU8s szU8 D 0 N N 0 .i64 0 rfl (by omega) (by omega)
      simp only [Nat.add_zero, Nat.sub_zero] at sl0
      cases rn
      · as_aux_lemma =>
          have hD1 : HD = enc32 12346 ++ enc32 n := by rw [HHD.out, head_plain Hrn.out, Hkl.out]
          have hH8 : H = 8 := by rw [HHl.out]; rfl
          have sl4 := fun (W : World) => run_cut_from (P := Tryz.prog) W undU8s szU8 D 0 N N 4 .i64 4 rfl (by omega) (by omega)
          simp only [Nat.zero_add] at sl4
          have hN8' : 8 ≤ N := by have := HN.out; omega
          have wn : IntKind.u32.wrap (n : Int) = (n : Int) := IntWalk.u32_in _ (by omega)
          have P1 : Hid (∀ W : World, Mild w1 W → Calls Tryz.prog 70 #[.agg #[], .slice (some ⟨D, 0, none⟩) N N, .int .u32 12346] W fun e w' => e = .returned (.tuple #[]) ∧ Blk w' D 5 (u8s (fil ([] ++ enc32 12346) N)) ∧ Kept (fun b => b = D) W w') := Lib.hid (fun W hW => put32_any D 0 N N N 12346 [] W (Hbk.out.kept hW id) rfl (by omega) (by omega) (by omega))
          have P2 : Hid (∀ W : World, Blk W D 5 (u8s (fil ([] ++ enc32 12346) N)) → Calls Tryz.prog 70 #[.agg #[], .slice (some ⟨D, 4, none⟩) (N - 4) (N - 4), .int .u32 (n : Int)] W fun e w' => e = .returned (.tuple #[]) ∧ Blk w' D 5 (u8s (fil ([] ++ enc32 12346 ++ enc32 n) N)) ∧ Kept (fun b => b = D) W w') := Lib.hid (fun W hW => put32_any D 4 (N - 4) (N - 4) N n _ W hW rfl (by omega) (by omega) (by omega))
          have P1w := Lib.hid (P1.out w1.drew ((Kept.refl _ _).drew))
          have oD : ¬ p = D := by have := HDw.out; omega
          clear vv1 P1
          go_wp2_with fail
          go_region_held3 (fun _ => True) (first | trivial) (first
            | (go_at_call 70; (with_reducible refine P1w.out.mono ?_); rintro ed w2 ⟨rfl, hb2, hk2⟩; have kk2 := hk2.cell2 oD kk1; have HB2 := Lib.hid hb2; have HK2 := Lib.hid hk2; clear hb2 hk2; have hT1 := True.intro)
            | fail)
          go_wp2_with fail
          go_region_held3 (fun w' => w'.cell? ⟨p, 0, none⟩ = some (.slice GK n cK)) (first | assumption | exact kk2 | go_keep) (first
            | (go_at_call 70; (with_reducible refine (P2.out _ HB2.out.drew).mono ?_); rintro ed w3 ⟨rfl, hb3, hk3⟩; have HB3 := Lib.hid hb3; have HK3 := Lib.hid hk3; have hS3 : w3.cell? ⟨p, 0, none⟩ = some (.slice GK n cK) := hk3.cell2 oD kk2; clear hb3 hk3)
            | fail)
          go_wp2_with fail
          go_meet
          case rel => exact ⟨by rw [hH8]; rfl, Lib.hid (Kept.then (Kept.then Hk1.out.drew HK2.out (fun j hj h => by have := HDw.out; omega)).drew HK3.out (fun j hj h => by have := HDw.out; omega)), Lib.hid (by rw [hD1]; exact HB3.out)⟩
      · as_aux_lemma =>
          have hfl1 : a = fl := Ha.out rfl
          have hH4 : H = 4 + fl := by rw [HHl.out, if_pos rfl]
          obtain rfl : c = 4 := by have := Hac.out; omega
          subst hfl1
          obtain ⟨n1, hn1⟩ : ∃ n1, n1 = n - 1 := ⟨_, rfl⟩
          have h1n := Hn1.out rfl
          have sl2 := fun (W : World) => run_cut_from (P := Tryz.prog) W undU8s szU8 D 0 N N 2 .i64 2 rfl (by omega) (by omega)
          simp only [Nat.zero_add] at sl2
          have sl3 := fun (W : World) => run_cut_both (P := Tryz.prog) W undU8s szU8 D 0 N N 4 (4 + a) .i64 .i64 4 (4 + (a : Int)) rfl (by omega) (by omega) (by have := HN.out; omega)
          simp only [tlA_of hN8, Nat.zero_add, Nat.mul_one, Nat.add_sub_cancel_left] at sl3
          have y1 : IntKind.i64.wrap ((n : Int) - 1) = (n1 : Int) := by rw [IntWalk.i64_in _ (by omega)]; omega
          have y2 : IntKind.u16.wrap (n1 : Int) = (n1 : Int) := IntWalk.u16_in _ (by omega)
          have y3 : (n : Int) - 1 = (n1 : Int) := by omega
          have P1 : Hid (∀ W : World, Mild w1 W → Calls Tryz.prog 69 #[.agg #[], .slice (some ⟨D, 0, none⟩) N N, .int .u16 12347] W fun e w' => e = .returned (.tuple #[]) ∧ Blk w' D 5 (u8s (fil ([] ++ enc16 12347) N)) ∧ Kept (fun b => b = D) W w') := Lib.hid (fun W hW => put16_any D 0 N N N 12347 [] W (Hbk.out.kept hW id) rfl (by omega) (by omega) (by omega))
          have P2 : Hid (∀ W : World, Blk W D 5 (u8s (fil ([] ++ enc16 12347) N)) → Calls Tryz.prog 69 #[.agg #[], .slice (some ⟨D, 2, none⟩) (N - 2) (N - 2), .int .u16 (IntKind.u16.wrap (IntKind.i64.wrap ((n : Int) - 1)))] W fun e w' => e = .returned (.tuple #[]) ∧ Blk w' D 5 (u8s (fil ([] ++ enc16 12347 ++ enc16 n1) N)) ∧ Kept (fun b => b = D) W w') := Lib.hid (fun W hW => by rw [y1, y2]; exact put16_any D 2 (N - 2) (N - 2) N n1 _ W hW rfl (by omega) (by omega) (by omega))
          have HR0 := Lib.hid (show rowF kd n 0 = fil ([] ++ enc16 12347 ++ enc16 n1) N by rw [rowF_zero kd n N (by have := HN.out; have := Hfl.out; omega), hn1]; rfl)
          have HRn := Lib.hid (show rowF kd n n = fil HD N by rw [rowF_all kd n N (by have := HN.out; have := Hfl.out; omega) Hkl.out h1n Hrn.out, HHD.out])
          have P1w := Lib.hid (P1.out w1.drew ((Kept.refl _ _).drew))
          have oD : ¬ p = D := by have := HDw.out; omega
          clear P1 y1 y2 y3 hn1
          go_wp2_with fail
          go_region_held3 (fun _ => True) (first | trivial) (first
            | (go_at_call 69; (with_reducible refine P1w.out.mono ?_); rintro ed w2 ⟨rfl, hb2, hk2⟩; have kk2 := hk2.cell2 oD kk1; have vv2 := hk2.cell2 oD vv1; have HB2 := Lib.hid hb2; have HK2 := Lib.hid hk2; clear hb2 hk2; have hT1 := True.intro)
            | fail)
          go_wp2_with fail
          go_region_held3 (fun w' => w'.cell? ⟨p, 0, none⟩ = some (.slice GK n cK)) (first | assumption | exact kk2 | go_keep) (first
            | (go_at_call 69; (with_reducible refine (P2.out _ HB2.out.drew).mono ?_); rintro ed w3 ⟨rfl, hb3, hk3⟩; have vv3 := hk3.cell2 oD vv2; have hS3 : w3.cell? ⟨p, 0, none⟩ = some (.slice GK n cK) := hk3.cell2 oD kk2; have HB3 := Lib.hid hb3; have HK3 := Lib.hid hk3; clear hb3 hk3)
            | fail)
          have Hb3 : Hid (Blk w3 D 5 (u8s (rowF kd n 0))) := Lib.hid (by rw [HR0.out]; exact HB3.out)
          have Hm3 : Hid (Mild w w3) := Lib.hid (Kept.then (Kept.then Hk1.out.drew HK2.out (fun j hj h => by have := HDw.out; omega)).drew HK3.out (fun j hj h => by have := HDw.out; omega))
          clear sl0 sl2 P1w P2 kk1 vv1 kk2 vv2
          go_wp2_with fail
          clear sl3
          go_loopw [90] (fun i wr => ∃ k : Nat, i = .int .i64 (k : Int) ∧ k ≤ n ∧ Hid (Mild w wr) ∧ Hid (Blk wr D 5 (u8s (rowF kd n k)))) (fun i _ => n - (intOf i).toNat)
          case atStart => exact ⟨0, rfl, Nat.zero_le _, Hm3, Hb3⟩
          case round =>
            obtain ⟨k, rfl, hk, Hm, Hb⟩ := hrel
            by_cases hkn : k < n
            · obtain ⟨x, hx⟩ : ∃ x, q[k]? = some x := ⟨_, List.getElem?_eq_getElem (by rw [Hn.out]; exact hkn)⟩
              obtain ⟨g, rfl, c1, _⟩ := Hvv.out k x hx
              obtain ⟨L, hL, _, _⟩ := HK.out k x hx
              have c2 := Hm.out.cell2 id c1
              have i1 : (k : Int) < (n : Int) := by omega
              have hkx := Hkat.out k x hx
              obtain ⟨z, ⟨e1, e2⟩ | ⟨e1, e2⟩ | ⟨e1, e2⟩⟩ := hL.kind
              · rw [e2] at c2
                have Hre := Lib.hid (rowF_else (n := n) hkx (by omega))
                clear hL hx e1 e2 hkx c1
                have as1 := as_ar
                go_wp2_with fail
                go_roundw
                case rel => exact ⟨k + 1, by go_num, by omega, Hm, by rw [Hre.out]; exact Hb⟩
                case measure => simp only [intOf]; omega
              · rw [e2] at c2
                have Hre := Lib.hid (rowF_else (n := n) hkx (by omega))
                clear hL hx e1 e2 hkx c1
                have as1 := as_br
                go_wp2_with fail
                go_roundw
                case rel => exact ⟨k + 1, by go_num, by omega, Hm, by rw [Hre.out]; exact Hb⟩
                case measure => simp only [intOf]; omega
              · rw [e2] at c2
                rw [e1] at hkx
                have hst : (u8s (rowF kd n k)).set (4 + k / 8) (.int .u8 ((((flagsTo kd n k).getD (k / 8) 0 ||| 2 ^ (k % 8) : Nat)) : Int)) = u8s (rowF kd n (k + 1)) := by rw [u8s_set, rowF_set hkn hkx]
                have hat := rowF_at (kd := kd) hkn
                have hgb := getD_le (flagsTo_byte kd n k) (k / 8)
                obtain ⟨_, p8'⟩ := pow_8 (k % 8) (by omega)
                have c0 : wr.cell? ⟨D, 4 + k / 8, none⟩ = some (.int .u8 (((flagsTo kd n k).getD (k / 8) 0 : Nat) : Int)) := (Hb.out.cell _).trans (u8s_at hat)
                have cf : wr.frozen? ⟨D, 4 + k / 8, none⟩ = false := Hb.out.free _
                have hor := u8_or_nat ((flagsTo kd n k).getD (k / 8) 0) (2 ^ (k % 8)) hgb p8'
                rw [show ((2 ^ (k % 8) : Nat) : Int) = (2 : Int) ^ (k % 8) by simp] at hor
                have Hst := Lib.hid hst
                generalize (flagsTo kd n k).getD (k / 8) 0 = fb at *
                have q8 : (k : Int) / 8 < (a : Int) := by have := Hfl.out; omega
                clear hL hx e1 e2 hkx c1 hst hat
                have as1 := as_rr
                go_wp2_with fail
                go_roundw
                case rel => exact ⟨k + 1, by go_num, by omega, Lib.hid (Hm.out.setCell (p := ⟨D, 4 + k / 8, none⟩) (fun h => absurd h (by have := HDw.out; show ¬ D < _; omega)) _), Lib.hid (by rw [← Hst.out]; exact Hb.out.set _ _)⟩
                case measure => simp only [intOf]; omega
            · obtain rfl : n = k := by omega
              have Hbn : Hid (Blk wr D 5 (u8s (fil HD N))) := by rw [← HRn.out]; exact Hb
              go_wp2_with fail
              go_meet
              case rel => exact ⟨by have := hH4; go_num, Hm, Hbn⟩
    case rest =>
      obtain ⟨rfl, Hm2, Hb2⟩ := hcut
      have kk2 := Hm2.out.cell2 id kk
      have vv2 := Hm2.out.cell2 id vv
      have Hdz := Lib.hid (show fil (HD ++ descTo q 0) N = fil HD N by rw [descTo_zero, List.append_nil])
      clear kk1 vv1 C
      go_wp2_with fail
      go_loopw [137, 12] (fun i v wr => ∃ k o : Nat, i = .int .i64 (k : Int) ∧ v = .int .i64 (o : Int) ∧ k ≤ n ∧ Hid (o = H + 4 * k) ∧ Hid (Mild w wr) ∧ Hid (Blk wr D 5 (u8s (fil (HD ++ descTo q k) N)))) (fun i _ _ => n - (intOf i).toNat)
      case atStart => exact ⟨0, H, rfl, rfl, Nat.zero_le _, Lib.hid rfl, Hm2, by rw [Hdz.out]; exact Hb2⟩
      case round =>
        clear kk2 vv2
        obtain ⟨k, o, rfl, rfl, hk, Ho, Hm, Hb⟩ := hrel
        by_cases hkn : k < n
        · as_aux_lemma =>
            obtain ⟨x, hx⟩ : ∃ x, q[k]? = some x := ⟨_, List.getElem?_eq_getElem (by rw [Hn.out]; exact hkn)⟩
            obtain ⟨gk, rfl, c1, _⟩ := Hkk.out k x hx
            obtain ⟨gv, rfl, c2, hgB⟩ := Hvv.out k x hx
            obtain ⟨L, hL, hLp, _⟩ := HK.out k x hx
            obtain ⟨hx1, hx2, hx3, hx4⟩ := Hok.out x (List.mem_of_getElem? hx)
            have hln : x.l.length ≤ 65536 := sorted_count hx2 65536 hx3
            have hpos : 1 ≤ x.l.length := List.length_pos_iff.2 hx4
            have hx1 : x.key < 65536 := hx1
            have ca := Hm.out.cell2 id c1
            have i1 : (k : Int) < (n : Int) := by omega
            obtain ⟨tt, ad, fn, ev, n1, n2, n3, hC⟩ := kc_card hL
            have cv := Hm.out.cell2 id c2
            rw [ev] at cv
            have vvr := Hm.out.cell2 id vv
            have Hdt := Lib.hid (descTo_succ hx)
            have hdl : (HD ++ descTo q k).length = o := by rw [List.length_append, ← HH.out, Hdl.out k hk, Ho.out]
            obtain ⟨done, hdn⟩ : ∃ done, done = HD ++ descTo q k := ⟨_, rfl⟩
            rw [← hdn] at Hb hdl
            have Hdn := Lib.hid hdn
            have HC := Lib.hid hC
            have Hlp := Lib.hid hLp
            have hoN : o + 4 ≤ N := by have := Ho.out; have := HN.out; omega
            clear hL c1 c2 ev hC hLp hx hx2 hx3 hx4 hdn
            generalize x.key = key at *
            generalize x.l.length = cd at *
            have sl1 := fun (W : World) => run_cut_from (P := Tryz.prog) W undU8s szU8 D 0 N N o .i64 (o : Int) rfl (by omega) (by omega)
            have sl2 := fun (W : World) => run_cut_from (P := Tryz.prog) W undU8s szU8 D 0 N N (o + 2) .i64 ((o : Int) + 2) (by omega) (by omega) (by omega)
            simp only [Nat.zero_add] at sl1 sl2
            have P1 := Lib.hid (put16_any D o (N - o) (N - o) N key done wr.drew Hb.out.drew hdl (by omega) (by omega) hx1)
            have P2 : Hid (∀ (W : World), Blk W D 5 (u8s (fil (done ++ enc16 key) N)) → Calls Tryz.prog 69 #[.agg #[], .slice (some ⟨D, o + 2, none⟩) (N - (o + 2)) (N - (o + 2)), .int .u16 (IntKind.u16.wrap (IntKind.i64.wrap ((cd : Int) - 1)))] W fun e w' => e = .returned (.tuple #[]) ∧ Blk w' D 5 (u8s (fil (done ++ enc16 key ++ enc16 (cd - 1)) N)) ∧ Kept (fun b => b = D) W w') := Lib.hid (fun W h => by
              rw [IntWalk.i64_in _ (by omega), IntWalk.u16_in _ (by omega), show (cd : Int) - 1 = ((cd - 1 : Nat) : Int) by omega]
              exact put16_any D (o + 2) (N - (o + 2)) (N - (o + 2)) N (cd - 1) (done ++ enc16 key) W h (by rw [List.length_append, hdl]; rfl) (by omega) (by omega) (by omega))
            have oD : ¬ p = D := by have := HDw.out; omega
            have oV : ¬ gv = D := by have := HDw.out; omega
            clear hdl
            go_wp2_with fail
            go_region_with (first
              | (go_at_call 69; refine P1.out.mono ?_; rintro ed w3 ⟨rfl, hb3, hk3⟩; have vv3 := hk3.cell2 oD vvr; have cv3 := hk3.cell2 oV cv))
            all_goals
              have HB3 := Lib.hid hb3
              have hm3 : Mild w w3 := Kept.then Hm.out.drew hk3 (fun j hj h => by have := HDw.out; omega)
              have HM3 := Lib.hid hm3
              have CA := Lib.hid (HC.out w3.drew (Hlp.out.kept hm3.drew (fun _ _ => id)))
              clear hb3 hk3 hm3 vvr cv
              go_wp2_with fail
              go_region_held3 (fun _ => True) (first | trivial) (first
                | ((with_reducible refine CA.out.mono ?_); rintro ed w4 ⟨rfl, k4⟩; have B4 := Lib.hid (HB3.out.drew.kept k4 id); have M4 := Lib.hid (HM3.out.drew.trans k4); have hT1 := True.intro)
                | (go_at_call 69; (with_reducible refine (P2.out _ B4.out).mono ?_); rintro ed w5 ⟨rfl, hb5, hk5⟩; have B5 := Lib.hid hb5; have M5 := Lib.hid (Kept.then M4.out hk5 (fun j hj h => by have := HDw.out; omega)); have hT2 := True.intro)
                | fail)
              all_goals
                go_wp2_with fail
                go_roundw
                case rel => exact ⟨k + 1, o + 4, by go_num, by go_num, by omega, Lib.hid (by have := Ho.out; omega), M5, Lib.hid (by rw [Hdt.out, ← List.append_assoc, ← List.append_assoc, ← Hdn.out]; exact B5.out)⟩
                case measure => simp only [intOf]; omega
        · as_aux_lemma =>
            obtain rfl : n = k := by omega
            obtain ⟨X1, hX1⟩ : ∃ X1, X1 = HD ++ descTo q n := ⟨_, rfl⟩
            rw [← hX1] at Hb
            have hX1l : X1.length = o := by rw [hX1, List.length_append, ← HH.out, Hdl.out n hk, Ho.out]
            obtain ⟨OF, hOF⟩ : ∃ OF, OF = offsOf (qsOf q) kd := ⟨_, rfl⟩
            have hoff := Hoff.out
            rw [← hOF, ← HHD.out, ← HH.out, ← HN.out] at hoff
            have hww := Hww.out
            rw [← hOF, ← HHD.out, ← hX1] at hww
            obtain ⟨bb, hbb⟩ : ∃ bb, bb = (!rn || decide (4 ≤ n)) := ⟨_, rfl⟩
            have hofb : OF = if bb = true then offTo N q n else [] := by
              rw [hoff, hbb]
              cases rn <;> by_cases h4 : 4 ≤ n <;> simp [h4]
            obtain ⟨X, hX⟩ : ∃ X, X = X1 ++ OF := ⟨_, rfl⟩
            rw [← hX] at hww
            have Hbb := Lib.hid hbb
            have Hofb := Lib.hid hofb
            have HX := Lib.hid hX
            have HWW := Lib.hid hww
            have HX1 := Lib.hid hX1l
            have hXl : X.length = if bb = true then o + 4 * n else o := by
              rw [hX, List.length_append, hX1l, hofb]
              cases bb
              · rfl
              · rw [if_pos rfl, if_pos rfl, offTo_len]
            obtain ⟨nw, hnw⟩ : ∃ nw, nw = X.length := ⟨_, rfl⟩
            rw [← hnw] at hXl
            have Hnw := Lib.hid hnw
            have HXl := Lib.hid hXl
            have hbs := bodTo_le q
            rw [Hn.out] at hbs
            have hbl9 : (bytesOf q).length = nw + (bodTo q n).length := by rw [hww, List.length_append, hnw]
            have Hbl9 := Lib.hid hbl9
            have Hbs := Lib.hid (fun (k : Nat) => show (bodTo q k).length ≤ 10000000 by have := hbs k; have := Hs.out; omega)
            have hnwN : nw ≤ N := by have := HN.out; have := Ho.out; rw [hXl]; split <;> omega
            clear hX1 hOF hoff hww hbb hofb hX hX1l hXl hnw hbs hbl9
            have kkr := Hm.out.cell2 id kk
            have vvr := Hm.out.cell2 id vv
            go_upto_region 39 with fail
            go_cut [186] (fun s wx => s = .bool bb ∧ wr = wx)
            case first =>
              cases rn
              · obtain rfl : bb = true := by rw [Hbb.out]; rfl
                go_wp2_with fail
                go_meet
                case rel => exact ⟨rfl, rfl⟩
              · have e5 : bb = decide (4 ≤ n) := by rw [Hbb.out]; rfl
                by_cases h4 : 4 ≤ n
                · obtain rfl : bb = true := by rw [e5]; simp [h4]
                  clear e5
                  go_wp2_with fail
                  go_meet
                  case rel => exact ⟨by simp; omega, rfl⟩
                · obtain rfl : bb = false := by rw [e5]; simp [h4]
                  clear e5
                  go_wp2_with fail
                  go_meet
                  case rel => exact ⟨by simp; omega, rfl⟩
            case rest =>
              obtain ⟨rfl, rfl⟩ := hcut
              have HacN := Lib.hid (show c + a + 4 * n + 4 * n = N by have := HN.out; have := Hac.out; omega)
              go_upto_if 186 with fail
              go_cut [12, 19, 21, 22, 23] (fun s12 s19 s21 s22 s23 wx => s12 = .int .i64 (nw : Int) ∧ Hid (Mild w wx) ∧ Hid (Blk wx D 5 (u8s (fil X N))))
              case first =>
                cases bb
                · have e5 := HXl.out
                  rw [if_neg (by simp)] at e5
                  have e6 : X = X1 := by rw [HX.out, Hofb.out, if_neg (by simp), List.append_nil]
                  go_wp2_with fail
                  go_meet
                  case rel => exact ⟨by rw [e5], Hm, by rw [e6]; exact Hb⟩
                · as_aux_lemma =>
                    have e5 := HXl.out
                    rw [if_pos rfl] at e5
                    have e6 : X = X1 ++ offTo N q n := by rw [HX.out, Hofb.out, if_pos rfl]
                    have E5 := Lib.hid e5
                    have E6 := Lib.hid e6
                    have zN : IntKind.i64.wrap (N : Int) = (N : Int) := IntWalk.i64_in _ (by omega)
                    have zN2 : (c : Int) + (a : Int) + 4 * (n : Int) + 4 * (n : Int) = (N : Int) := by have := HacN.out; omega
                    have hb00 : (bodTo q 0).length = 0 := rfl
                    have Hb0 : Hid (Blk wr D 5 (u8s (fil (X1 ++ offTo N q 0) N))) := Lib.hid (by rw [offTo_zero, List.append_nil]; exact Hb.out)
                    clear e5 e6 kkr
                    go_wp2_with fail
                    go_loopw [192, 12, 19] (fun i v s wx => ∃ k r z : Nat, i = .int .i64 (k : Int) ∧ v = .int .i64 (r : Int) ∧ s = .int .i64 (z : Int) ∧ k ≤ n ∧ Hid (r = o + 4 * k) ∧ Hid (z = N + (bodTo q k).length) ∧ Hid (Mild w wx) ∧ Hid (Blk wx D 5 (u8s (fil (X1 ++ offTo N q k) N)))) (fun i _ _ _ => n - (intOf i).toNat)
                    case atStart => exact ⟨0, o, N, rfl, rfl, by first | rfl | rw [zN2], Nat.zero_le _, Lib.hid rfl, Lib.hid (by rw [hb00]; rfl), Hm, Hb0⟩
                    case round =>
                      clear Hb0 vvr zN zN2
                      obtain ⟨k, r, z, rfl, rfl, rfl, hk, Hr, Hz, Hm, Hb⟩ := hrel
                      by_cases hkn : k < n
                      · obtain ⟨x, hx⟩ : ∃ x, q[k]? = some x := ⟨_, List.getElem?_eq_getElem (by rw [Hn.out]; exact hkn)⟩
                        obtain ⟨gv, rfl, c2, hgB⟩ := Hvv.out k x hx
                        obtain ⟨L, hL, hLp, hLB⟩ := HK.out k x hx
                        obtain ⟨hx1, hx2, hx3, hx4⟩ := Hok.out x (List.mem_of_getElem? hx)
                        have hln : x.l.length ≤ 65536 := sorted_count hx2 65536 hx3
                        have i1 : (k : Int) < (n : Int) := by omega
                        have cv := Hm.out.cell2 id c2
                        obtain ⟨V, hV⟩ : ∃ V, V = x.v := ⟨_, rfl⟩
                        rw [← hV] at cv
                        have HV := Lib.hid hV
                        clear hV
                        have hbn : (bodTo q (k + 1)).length = (bodTo q k).length + (konBody x).length := by rw [bodTo_succ hx, List.length_append]
                        have hks := Hsz.out x (List.mem_of_getElem? hx)
                        have Hof := Lib.hid (offTo_succ N q k)
                        have hb7 := Hbs.out k
                        have hz9 : z ≤ 20000000 := by have := Hz.out; omega
                        have hdl : (X1 ++ offTo N q k).length = r := by rw [List.length_append, HX1.out, offTo_len, Hr.out]
                        obtain ⟨done, hdn⟩ : ∃ done, done = X1 ++ offTo N q k := ⟨_, rfl⟩
                        rw [← hdn] at Hb hdl
                        have Hdn := Lib.hid hdn
                        have Hpo : Hid (posAt N (q.map konBody) k = z) := Lib.hid (by rw [posAt_bod, Hz.out])
                        have Hlp := Lib.hid hLp
                        have HLB := Lib.hid hLB
                        have Hbn := Lib.hid hbn
                        have Hx := Lib.hid hx
                        have hrN : r + 4 ≤ N := by have := Hr.out; have := HN.out; have := Ho.out; omega
                        have oV : ¬ gv = D := by have := HDw.out; omega
                        have sl1 := fun (W : World) => run_cut_from (P := Tryz.prog) W undU8s szU8 D 0 N N r .i64 (r : Int) rfl (by omega) (by omega)
                        simp only [Nat.zero_add] at sl1
                        have wz : IntKind.u32.wrap (z : Int) = (z : Int) := IntWalk.u32_in _ (by omega)
                        have P1 := Lib.hid (put32_any D r (N - r) (N - r) N z done wr.drew Hb.out.drew hdl (by omega) (by omega) (by omega))
                        clear hx hbn hdn hdl hLp hLB hx1 hx2 hx3 hx4 hb7 c2
                        go_wp2_with fail
                        go_region_with (first
                          | (go_at_call 70; refine P1.out.mono ?_; rintro ed w3 ⟨rfl, hb3, hk3⟩; have cv3 := hk3.cell2 oV cv))
                        all_goals
                          have hm3 : Mild w w3 := Kept.then Hm.out.drew hk3 (fun j hj h => by have := HDw.out; omega)
                          have HM3 := Lib.hid hm3
                          have HB3 := Lib.hid hb3
                          have hp3 := Hlp.out.kept hm3 (fun _ _ => id)
                          have HP3 := Lib.hid hp3
                          have Hnx : Hid (fil (X1 ++ offTo N q (k + 1)) N = fil (done ++ enc32 z) N) := Lib.hid (by rw [Hof.out, Hpo.out, ← List.append_assoc, ← Hdn.out])
                          clear hb3 hk3 cv sl1 P1
                          by_cases h2k : x.k = 2
                          · rw [h2k] at hL
                            obtain ⟨zi, m, c', G, ei, civ, hm1, hm2⟩ := kc_iv hL hp3
                            have e9 := HV.out.trans ei
                            subst e9
                            have hks2 : (konBody x).length = 2 + 4 * m := by rw [hks, h2k, if_neg (by decide), if_neg (by decide), hm1]
                            have Hks := Lib.hid hks2
                            have as1 := as_rr
                            clear hL hp3 hm3 ei hm1 hks hks2 h2k hln
                            go_wp2_with fail
                            go_roundw
                            case rel => exact ⟨k + 1, r + 4, z + (2 + 4 * m), by go_num, by go_num, by go_num, by omega, Lib.hid (by have := Hr.out; omega), Lib.hid (by rw [Hbn.out, Hks.out, Hz.out]; omega), HM3, by rw [Hnx.out]; exact HB3⟩
                            case measure => simp only [intOf]; omega
                          · obtain ⟨tt, ad, fn, ev, n1, n2, n3, hC, as1, hsz⟩ := kc_plain hL h2k
                            have e9 := HV.out.trans ev
                            subst e9
                            have Hks := Lib.hid (hks.trans hsz)
                            have SZ := Lib.hid (fun (W : World) => sizeCard_any x.l.length W hln)
                            have CA := Lib.hid (hC w3 hp3)
                            clear hL hp3 hm3 ev hks hsz hC h2k
                            generalize x.l.length = cd at *
                            obtain ⟨sz, hsz⟩ : ∃ sz, sz = (if cd ≤ 4096 then 2 * cd else 8192 : Nat) := ⟨_, rfl⟩
                            rw [← hsz] at Hks SZ
                            have hsz9 : sz ≤ 200000 := by rw [hsz]; split <;> omega
                            clear hsz
                            go_wp2_with (first
                              | (go_at_call 71; refine (SZ.out _).mono ?_; rintro ed w5 ⟨rfl, rfl⟩)
                              | ((with_reducible refine CA.out.mono ?_); rintro ed w4 ⟨rfl, k4⟩; have M4 := Lib.hid (HM3.out.trans k4); have B4 := Lib.hid (HB3.out.kept k4 id); clear k4)
                              | fail)
                            go_roundw
                            case rel => exact ⟨k + 1, r + 4, z + sz, by go_num, by go_num, by go_num, by omega, Lib.hid (by have := Hr.out; omega), Lib.hid (by rw [Hbn.out, Hks.out, Hz.out]; omega), M4, by rw [Hnx.out]; exact B4⟩
                            case measure => simp only [intOf]; omega
                      · obtain rfl : n = k := by omega
                        go_wp2_with fail
                        go_meet
                        case rel => exact ⟨by have := E5.out; have := Hr.out; go_num, Hm, by rw [E6.out]; exact Hb⟩
              case rest =>
                as_aux_lemma =>
                  obtain ⟨rfl, Hm5, Hb5⟩ := hcut
                  have hmf : ∀ (fn : Fn) (first cap : Array Value) (W : World), (Instr.makeFunc fn first cap).run Tryz.prog W = .ok (.func fn first cap) W := fun _ _ _ _ => rfl
                  have N1 := ahead_buf ⟨b, 0, none⟩
                  have N2 := method_buf ⟨b, 0, none⟩
                  have hDb : b ≠ D := by have := HDw.out; omega
                  have slt := fun (W : World) => run_cut_to (P := Tryz.prog) W undU8s szU8 D 0 N N nw .i64 (nw : Int) rfl hnwN
                  have hnw9 : nw ≤ 1000000000 := by omega
                  have CW := Lib.hid (fun (W : World) (hm : Mild w W) (hb : Blk W D 5 (u8s (fil X N))) => bufWrite_any B b D nw N [] X (List.replicate (N - X.length) 0) W (HI.out.mild hm) hDb (by have := hb; unfold fil at this; exact this) Hnw.out.symm (by have := Hnw.out; simp; omega))
                  have vv5 := Hm5.out.cell2 id vv
                  have HCW := Lib.hid (CW.out wc.drew Hm5.out.drew Hb5.out.drew)
                  have hBw : B ≤ w.heap.size := by omega
                  clear CW kkr vvr
                  go_wp2_with fail
                  go_region_with (first
                    | (go_at_call 264; refine HCW.out.mono ?_; rintro ed w6 ⟨rfl, q1, q2⟩)
                    | fail)
                  all_goals
                    have HB6 : Hid (Bf w6 B b X) := Lib.hid q1
                    have HQ6 : Hid (Below B w w6) := Lib.hid (((Kept.under Hm5.out.drew).mono hBw).trans q2)
                    have vv6 := (Kept.ofBelow HQ6.out).cell2 (show ¬ B ≤ p by omega) vv
                    have hXX : X.length = nw := Hnw.out.symm
                    clear q1 q2 vv5 slt hmf
                    rw [hXX]
                    have Hzz := Lib.hid (show nw = nw + (bodTo q 0).length from rfl)
                    have HB0 : Hid (Bf w6 B b (X ++ bodTo q 0)) := Lib.hid (by rw [bodTo_zero, List.append_nil]; exact HB6.out)
                    have hXl : X.length ≤ 1000000 := by omega
                    clear hXX HB6
                    go_wp2_with fail
                    go_loopw [247, 4] (fun i v wr => ∃ k z : Nat, i = .int .i64 (k : Int) ∧ v = .int .i64 (z : Int) ∧ k ≤ n ∧ Hid (z = nw + (bodTo q k).length) ∧ Hid (Bf wr B b (X ++ bodTo q k)) ∧ Hid (Below B w wr)) (fun i _ _ => n - (intOf i).toNat)
                    case atStart => exact ⟨0, nw, rfl, rfl, Nat.zero_le _, Hzz, HB0, HQ6⟩
                    case round =>
                      clear vv6 HB0 HQ6 Hzz
                      obtain ⟨k, z, rfl, rfl, hk, Hz, HB, HL⟩ := hrel
                      by_cases hkn : k < n
                      · obtain ⟨x, hx⟩ : ∃ x, q[k]? = some x := ⟨_, List.getElem?_eq_getElem (by rw [Hn.out]; exact hkn)⟩
                        obtain ⟨gv, rfl, c2, hgB⟩ := Hvv.out k x hx
                        obtain ⟨L, hL, hLp, hLB⟩ := HK.out k x hx
                        have cv := (Kept.ofBelow HL.out).cell2 (show ¬ B ≤ gv by omega) c2
                        have hp := hLp.kept (Kept.ofBelow HL.out) (fun d hd h => by have := hLB d hd; omega)
                        obtain ⟨tt, ad, fn, ev, n1, n2, n3, hC⟩ := kc_write hL
                        rw [ev] at cv
                        have i1 : (k : Int) < (n : Int) := by omega
                        have hb7 := Hbs.out k
                        have hb8 := Hbs.out (k + 1)
                        have hbt := bodTo_succ hx
                        have CW := hC B b (X ++ bodTo q k) wr hp HB.out (by rw [List.length_append]; omega)
                        obtain ⟨bd, hbd⟩ : ∃ bd, bd = bodyOf (runsOf x.l) x.k := ⟨_, rfl⟩
                        rw [← hbd] at CW
                        have hbt : bodTo q (k + 1) = bodTo q k ++ bd := by rw [hbt, hbd]; rfl
                        rw [hbt, List.length_append] at hb8
                        have CW := Lib.hid CW
                        have Hbt := Lib.hid hbt
                        have hz9 : z ≤ 20000000 := by have := Hz.out; omega
                        have hbd9 : bd.length ≤ 10000000 := by omega
                        clear hL c2 hLp hLB hp ev hC hx hbt hbd hb7 hb8
                        go_wp2_with (first
                          | ((with_reducible refine CW.out.mono ?_); rintro ed w7 ⟨rfl, q1, q2⟩; have Q1 := Lib.hid q1; have Q2 := Lib.hid q2; clear q1 q2)
                          | fail)
                        go_roundw
                        case rel => exact ⟨k + 1, z + bd.length, by go_num, by go_num, by omega, Lib.hid (by rw [Hbt.out, List.length_append, Hz.out]; omega), Lib.hid (by rw [Hbt.out, ← List.append_assoc]; exact Q1.out), Lib.hid (HL.out.trans Q2.out)⟩
                        case measure => simp only [intOf]; omega
                      · obtain rfl : n = k := by omega
                        go_wp2_with fail
                        go_ret2
                        exact ⟨by rw [Hbl9.out, ← Hz.out]; rfl, by rw [List.nil_append, HWW.out]; exact HB.out, HL.out⟩
end Go.Proofs
