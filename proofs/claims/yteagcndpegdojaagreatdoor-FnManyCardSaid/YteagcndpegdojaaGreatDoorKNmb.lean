/-
  bitmapContainerManyIterator.nextMany: numbers of bits go to a buffer.
-/
import Derived.Test.YteagcndpegdojaaGreatDoorJMnq
import Derived.Test.YteagcndpegdojaaGreatDoorJLsb
namespace Go.Roar
open Go.RowKit Go.Proofs
/-- What is left of bits: of a word the bits v, the words from b on. -/
def mbL (ws : List Nat) (b v : Nat) : List Nat := (bitsFrom v 0).map (64 * (b - 1) + ·) ++ restFrom (bitOf ws) (64 * b)
theorem mbL_word {ws : List Nat} (hl : ws.length = 1024) {b v : Nat} (hb : ws[b]? = some v) : mbL ws b 0 = mbL ws (b + 1) v := by
  unfold mbL
  rw [bitsFrom_zero, List.map_nil, List.nil_append, rest_word hl hb, Nat.add_sub_cancel]
theorem mbL_low {ws : List Nat} {b v t : Nat} (ht : t < 64) (h1 : v.testBit t = true) (h2 : ∀ j, j < t → v.testBit j = false) : mbL ws b v = (64 * (b - 1) + t) :: mbL ws b (v - 2 ^ t) := by
  unfold mbL
  rw [bitsFrom_low ht h1 h2, List.map_cons, List.cons_append]
theorem mbL_end {ws : List Nat} {b : Nat} (hb : 1024 ≤ b) : mbL ws b 0 = [] := by
  unfold mbL
  rw [bitsFrom_zero, List.map_nil, List.nil_append]
  exact restFrom_end _ _ (by omega)
theorem mbL_in {ws L : List Nat} {b v : Nat} (hL : mbL ws b v = L) (hb : b ≤ 1025) (hLb : ∀ x ∈ L, x < 65536) (hne : L ≠ []) : b ≤ 1024 := by
  refine Nat.not_lt.1 (fun hgt => ?_)
  obtain rfl : b = 1025 := by omega
  subst hL
  obtain ⟨x, hx⟩ := List.exists_mem_of_ne_nil _ hne
  have h1 := hLb x hx
  unfold mbL at hx
  rcases List.mem_append.1 hx with hx | hx
  · obtain ⟨i, _, rfl⟩ := List.mem_map.1 hx
    omega
  · rw [restFrom_end _ _ (by omega)] at hx
    cases hx
/-- What nextMany of bits leads to. -/
def BiP (I o gb off m hs : Nat) (ws L X : List Nat) (T t : TypeId) (cs : List Value) (w : World) (e : Ending) (w' : World) : Prop :=
  ∃ k b v : Nat, k = min m L.length ∧ e = .returned (.int .i64 (k : Int)) ∧ Blk w' gb t (u32s (sp X off ((L.take k).map (hs + ·)))) ∧ Blk w' I T ((cs.set (o + 1) (.int .i64 ((b : Int) - 1))).set (o + 2) (.int .u64 (v : Int))) ∧ Kept (fun b => b = I ∨ b = gb) w w' ∧
    v < 18446744073709551616 ∧ (v ≠ 0 → 1 ≤ b) ∧ (L ≠ [] → b ≤ 1025 ∧ mbL ws b v = L.drop k)
end Go.Roar
namespace Go.Proofs
open Go.RowKit Go.Roar

set_option maxRecDepth 100000 in
set_option maxHeartbeats 2000000 in
theorem biMany_any (I o gb off m cap hs p g c b0 v0 : Nat) (ws L X : List Nat) (T t : TypeId) (cs : List Value) (w : World) (hI : Blk w I T cs) (h0 : cs[o]? = some (.pointer (some ⟨p, 0, none⟩))) (h1 : cs[o + 1]? = some (.int .i64 ((b0 : Int) - 1))) (h2 : cs[o + 2]? = some (.int .u64 (v0 : Int)))
    (hp : w.cell? ⟨p, 1, none⟩ = some (.slice (some ⟨g, 0, none⟩) 1024 c)) (hl : ws.length = 1024) (hwb : ∀ x ∈ ws, x < 18446744073709551616) (hx : ∀ (i x : Nat), ws[i]? = some x → w.cell? ⟨g, i, none⟩ = some (.int .u64 (x : Int))) (hv0 : v0 < 18446744073709551616) (hb0 : b0 ≤ 1025) (hvb : v0 ≠ 0 → 1 ≤ b0) (hL : mbL ws b0 v0 = L) (hLb : ∀ x ∈ L, x < 65536)
    (hb : Blk w gb t (u32s X)) (hoff : off + m ≤ X.length) (hm : m ≤ 100000) (hm0 : 0 < m) (h8 : hs % 65536 = 0) (h9 : hs < 4294967296) (d1 : gb ≠ I) (d3 : g ≠ gb) :
    Calls Tryz.prog 310 #[.pointer (some ⟨I, o, none⟩), .int .u32 (hs : Int), .slice (some ⟨gb, off, none⟩) m cap] w (BiP I o gb off m hs ws L X T t cs w) := by
  have c0 := (hI.cell o).trans h0
  have c1 := (hI.cell (o + 1)).trans h1
  have c2 := (hI.cell (o + 2)).trans h2
  have HB := Lib.hid (show Blk w gb t (u32s (sp X off ((L.take 0).map (hs + ·)))) from by rw [List.take_zero]; simp only [List.map_nil]; rw [sp_nil]; exact hb)
  have HI := Lib.hid hI
  have HX := Lib.hid hx
  have HWB := Lib.hid hwb
  have HLW := Lib.hid hl
  have HLB := Lib.hid hLb
  have HL := Lib.hid hL
  have HVB := Lib.hid hvb
  have H2 := Lib.hid h2
  have HB4 := Lib.hid (mbL_in hL hb0 hLb)
  clear hb hx hwb hl hI h0 h1 h2 hL hLb hvb
  go_enter Tryz.func310, Tryz.ntmps310
  go_wp2
  go_loopw [7, 8, 9] (fun n bs vs wr => ∃ (q b v : Nat) (z : Int), n = .int .i64 q ∧ bs = .int .i64 z ∧ vs = .int .u64 (v : Int) ∧ z = (b : Int) - 1 ∧ q ≤ m ∧ q ≤ L.length ∧ v < 18446744073709551616 ∧ b ≤ 1025 ∧ Hid (L ≠ [] → b ≤ 1024) ∧ Hid (v ≠ 0 → 1 ≤ b) ∧ Hid (L.drop q = mbL ws b v) ∧ Hid (Blk wr gb t (u32s (sp X off ((L.take q).map (hs + ·))))) ∧ Hid (Kept (fun b => b = gb) w wr)) (fun n bs _ _ => (m - (intOf n).toNat) + (2000 - (intOf bs + 1).toNat))
  case atStart => exact ⟨0, b0, v0, _, rfl, rfl, rfl, rfl, Nat.zero_le _, Nat.zero_le _, hv0, hb0, HB4, HVB, Lib.hid (by rw [List.drop_zero]; exact HL.out.symm), HB, Lib.hid (Kept.refl _ _)⟩
  case round =>
    obtain ⟨q, b, v, z, rfl, rfl, rfl, hz, hq1, hq2, hv, hb, Hb4, Hvb, Hd, Hb, Hk⟩ := hrel
    by_cases hqm : q < m
    · by_cases hv0 : v = 0
      · have i0 : ((v : Int) == 0) = true := by rw [beq_iff_eq]; omega
        have hd0 := Hd.out
        rw [hv0] at hd0
        have Hv0 := Lib.hid hv0
        by_cases hb4 : b < 1024
        · obtain ⟨y, hy⟩ : ∃ y, ws[b]? = some y := ⟨_, List.getElem?_eq_getElem (by rw [HLW.out]; exact hb4)⟩
          have hyb := HWB.out y (List.mem_of_getElem? hy)
          have cy := Hk.out.cell2 (p := ⟨g, b, none⟩) d3 (HX.out b y hy)
          have Hd2 := Lib.hid (show L.drop q = mbL ws (b + 1) y from by rw [hd0, mbL_word HLW.out hy])
          have q1 : z + 1 = (b : Int) := by omega
          have Hz := Lib.hid hz
          have hzb : -1 ≤ z ∧ z ≤ 1024 := by omega
          clear hy hz hd0 hv0
          go_wp2
          refine wp_loop_rounds 1 ?_
          rw [rounds_succ]
          go_wp2
          go_roundw
          case rel => exact ⟨q, b + 1, y, (b : Int), rfl, rfl, rfl, by omega, hq1, hq2, hyb, by omega, Lib.hid (fun _ => by omega), Lib.hid (fun _ => by omega), Hd2, Hb, Hk⟩
          case measure => simp only [intOf]; omega
        · have hLq : L.length = q := by
            have h5 := congrArg List.length (hd0.trans (mbL_end (by omega)))
            rw [List.length_drop, List.length_nil] at h5
            omega
          have HQ := Lib.hid (show q = min m L.length by omega)
          have HE := Lib.hid (show mbL ws (b + 1) 0 = L.drop q from by rw [mbL_end (by omega), hd0, mbL_end (by omega)])
          have HV5 := Lib.hid (show (v ≠ 0 → 1 ≤ b + 1) from fun _ => by omega)
          have q1 : z + 1 = (b : Int) := by omega
          have Hz := Lib.hid hz
          have hzb : -1 ≤ z ∧ z ≤ 1024 := by omega
          have J0 := HI.out.kept Hk.out (fun e => d1 e.symm)
          have g1 := J0.free (o + 1)
          have g2 := Hk.out.cell2 (p := ⟨I, o + 1, none⟩) (fun e => d1 e.symm) c1
          have J1 := J0.set (o + 1) (.int .i64 (b : Int))
          have g3 := J1.free (o + 2)
          have g4 := (J1.cell (o + 2)).trans ((List.getElem?_set_ne (by omega)).trans H2.out)
          have HJ := Lib.hid (J1.set (o + 2) (.int .u64 (v : Int)))
          have i1 : ¬ (b : Int) < 1024 := by omega
          have i2 : (1024 : Int) ≤ (b : Int) := by omega
          clear hz hd0 hv0 hLq J0 J1
          go_wp2
          refine wp_loop_rounds 1 ?_
          rw [rounds_succ]
          go_wp2
          go_ret
          refine ⟨q, b + 1, v, HQ.out, rfl, (Hb.out.set_ne d1 _ _).set_ne d1 _ _, ?_, Kept.setCell (S := fun b => b = I ∨ b = gb) (p := ⟨I, o + 2, none⟩) (Kept.setCell (S := fun b => b = I ∨ b = gb) (p := ⟨I, o + 1, none⟩) (Hk.out.mono (fun _ _ h => .inr h)) (fun _ => .inl rfl) _) (fun _ => .inl rfl) _, hv, HV5.out, fun hne => ⟨by have := Hb4.out hne; omega, by rw [Hv0.out]; exact HE.out⟩⟩
          rw [show ((b + 1 : Nat) : Int) - 1 = (b : Int) by omega]
          exact HJ.out
      · have i0 : ((v : Int) == 0) = false := by rw [beq_eq_false_iff_ne]; omega
        have i00 : ¬ (v : Int) = 0 := by omega
        have hb1 := Hvb.out hv0
        obtain ⟨b', rfl⟩ : ∃ b', b = b' + 1 := ⟨b - 1, by omega⟩
        obtain rfl : z = (b' : Int) := by omega
        clear hz
        obtain ⟨t0, t1, t2⟩ := ctz_bits v (by omega) hv
        generalize Lib.ctz 64 v = tz at *
        have hlow := low_and hv t0 t1 t2
        have hsub := (low_sub t1 t2).1
        have hd := Hd.out
        rw [mbL_low t0 t1 t2, Nat.add_sub_cancel] at hd
        obtain ⟨x1, x2⟩ := drop_head hd
        have hqL := (List.getElem?_eq_some_iff.1 x1).1
        have hxb := HLB.out _ (List.mem_of_getElem? x1)
        have hpow : 2 ^ tz ≤ v := Nat.ge_two_pow_of_testBit t1
        have hp0 : 0 < 2 ^ tz := Nat.pow_pos (by decide)
        have hon := ones_low tz t0
        obtain ⟨TT, hT⟩ : ∃ TT, TT = 2 ^ tz := ⟨_, rfl⟩
        rw [← hT] at hlow hsub hpow hp0 hon x2
        obtain ⟨NV, hNV⟩ : ∃ NV, NV = 18446744073709551616 - v := ⟨_, rfl⟩
        rw [← hNV] at hlow
        have e1 : IntKind.u64.wrap (-(v : Int)) = (NV : Int) := by rw [IntKind.wrap_u64]; omega
        have e2 : bits .and .u64 (v : Int) (NV : Int) = (TT : Int) := by rw [u64_and_nat v NV hv (by omega), hlow]
        have e3 : IntKind.u64.wrap ((TT : Int) - 1) = ((TT - 1 : Nat) : Int) := by rw [IntKind.wrap_u64]; omega
        have e4 : bits .xor .u64 (v : Int) (TT : Int) = ((v - TT : Nat) : Int) := by rw [u64_xor_nat v TT hv (by omega), hsub]
        have PO := Lib.hid (fun (W : World) => show Calls Tryz.prog 81 #[.int .u64 ((TT - 1 : Nat) : Int)] W fun e w' => e = .returned (.int .i64 (tz : Int)) ∧ W = w' from by
          have := pop_any (TT - 1) (by omega) W
          rwa [hon] at this)
        obtain ⟨v9, hv9⟩ : ∃ v9, v9 = hs + (64 * b' + tz) := ⟨_, rfl⟩
        have e5 : bits .or .u32 ((b' : Int) * 64 + (tz : Int)) (hs : Int) = (v9 : Int) := by
          rw [hv9, show (b' : Int) * 64 + (tz : Int) = ((64 * b' + tz : Nat) : Int) by omega]
          exact or_hs hxb h8 h9
        have hlen : ((L.take q).map (hs + ·)).length = q := by rw [List.length_map, List.length_take]; omega
        have hsp := sp_length (X := X) (off := off) (ys := (L.take q).map (hs + ·)) (by omega)
        obtain ⟨y9, hy9⟩ : ∃ y, (u32s (sp X off ((L.take q).map (hs + ·))))[off + q]? = some y := ⟨_, List.getElem?_eq_getElem (by rw [u32s_length]; omega)⟩
        have cb := (Hb.out.cell (off + q)).trans hy9
        have cf := Hb.out.free (off + q)
        have HS := Lib.hid (show (u32s (sp X off ((L.take q).map (hs + ·)))).set (off + q) (.int .u32 (v9 : Int)) = u32s (sp X off ((L.take (q + 1)).map (hs + ·))) from by
          rw [u32s_set, sp_set hlen.symm (by omega), List.take_add_one, x1, List.map_append, hv9]
          rfl)
        have Hx2 := Lib.hid x2
        obtain ⟨v2, hv2⟩ : ∃ v2, v2 = v - TT := ⟨_, rfl⟩
        rw [← hv2] at e4 Hx2
        have hv2b : v2 < v := by omega
        clear hlow hsub hd x1 x2 hon hT hNV t1 t2 hv2 hpow hp0 hv9 hlen hsp hy9
        go_wp2_with (first
          | (go_at_call 81; refine (PO.out _).mono ?_; rintro ed w1 ⟨rfl, rfl⟩)
          | fail)
        have hbb := Hb.out.set (off + q) (.int .u32 (v9 : Int))
        rw [HS.out] at hbb
        go_roundw
        case rel => exact ⟨q + 1, b' + 1, v2, (b' : Int), by go_num, rfl, rfl, by omega, by omega, by omega, by omega, hb, Hb4, Lib.hid (fun _ => by omega), Hx2, Lib.hid hbb, Lib.hid (Kept.setCell (S := fun b => b = gb) (p := ⟨gb, off + q, none⟩) Hk.out (fun _ => rfl) _)⟩
        case measure => simp only [intOf]; omega
    · have hqe : q = m := by omega
      have HQ := Lib.hid (show q = min m L.length by omega)
      have HZ := Lib.hid hz
      have HQE := Lib.hid hqe
      have J0 := HI.out.kept Hk.out (fun e => d1 e.symm)
      have g1 := J0.free (o + 1)
      have g2 := Hk.out.cell2 (p := ⟨I, o + 1, none⟩) (fun e => d1 e.symm) c1
      have J1 := J0.set (o + 1) (.int .i64 z)
      have g3 := J1.free (o + 2)
      have g4 := (J1.cell (o + 2)).trans ((List.getElem?_set_ne (by omega)).trans H2.out)
      have HJ := Lib.hid (J1.set (o + 2) (.int .u64 (v : Int)))
      have i1 : ¬ (q : Int) < (m : Int) := by omega
      clear hz hqe J0 J1
      go_wp2
      go_ret
      refine ⟨q, b, v, HQ.out, rfl, (Hb.out.set_ne d1 _ _).set_ne d1 _ _, ?_, Kept.setCell (S := fun b => b = I ∨ b = gb) (p := ⟨I, o + 2, none⟩) (Kept.setCell (S := fun b => b = I ∨ b = gb) (p := ⟨I, o + 1, none⟩) (Hk.out.mono (fun _ _ h => .inr h)) (fun _ => .inl rfl) _) (fun _ => .inl rfl) _, hv, Hvb.out, fun hne => ⟨by have := Hb4.out hne; omega, Hd.out.symm⟩⟩
      rw [← HZ.out]
      exact HJ.out
end Go.Proofs
