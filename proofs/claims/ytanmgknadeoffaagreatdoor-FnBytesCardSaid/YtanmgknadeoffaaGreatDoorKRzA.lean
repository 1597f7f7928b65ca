/-
  roaringArray.readFrom over a stream (A) that tells the empty set.
-/
import Derived.Test.YtanmgknadeoffaaGreatDoorKRfA
namespace Go.Proofs
open Go.RowKit Go.Roar

theorem nilcA1 (W : World) : (Instr.slice 76 (.slice none 0 0) none (some (.int .u32 0)) none).run Tryz.prog W = .ok (.slice none 0 0) W := by kernel_rfl
theorem nilcA2 (W : World) : (Instr.slice 75 (.slice none 0 0) none (some (.int .u32 0)) none).run Tryz.prog W = .ok (.slice none 0 0) W := by kernel_rfl
theorem nilcA3 (W : World) : (Instr.slice 77 (.slice none 0 0) none (some (.int .u32 0)) none).run Tryz.prog W = .ok (.slice none 0 0) W := by kernel_rfl

set_option maxRecDepth 100000 in
set_option maxHeartbeats 8000000 in
theorem rzA_any (S R D C : Nat) (bs : List Nat) (p : Nat) (tp : TypeId) (w : World)
    (hs : StrA w S R D C bs (0)) (hp : Blk w p tp [.slice none 0 0, .slice none 0 0, .slice none 0 0, .bool false]) (hb : bs.length ≤ 1000000000) (hby : ∀ b ∈ bs, b < 256) (hSR : S ≠ R) (hSD : S ≠ D) (hRD : R ≠ D) (hpS : p ≠ S) (hpD : p ≠ D)
    (hpR : p ≠ R)
    (hK : ∃ b0 b1 b2 b3, bs[0]? = some b0 ∧ bs[0 + 1]? = some b1 ∧ bs[0 + 2]? = some b2 ∧ bs[0 + 3]? = some b3 ∧ leN [b0, b1, b2, b3] = 12346) (h8 : 8 ≤ bs.length)
    (hN : ∃ b0 b1 b2 b3, bs[4]? = some b0 ∧ bs[4 + 1]? = some b1 ∧ bs[4 + 2]? = some b2 ∧ bs[4 + 3]? = some b3 ∧ leN [b0, b1, b2, b3] = 0) :
    Calls Tryz.prog 39 #[.pointer (some ⟨p, 0, none⟩), .iface 121 (.pointer (some ⟨S, 0, none⟩)), .slice none 0 0] w fun e w' => e = .returned (.tuple #[.int .i64 8, .nilIface]) ∧
      Blk w' p tp [.slice none 0 0, .slice none 0 0, .slice none 0 0, .bool false] ∧ Kept (fun k => k = p ∨ k = R ∨ k = S) w w' := by
  have a1 := aheadA1 ⟨S, 0, none⟩
  have a2 := aheadA2 ⟨S, 0, none⟩
  have a3 := aheadA3 ⟨S, 0, none⟩
  have a5 := aheadA5 ⟨S, 0, none⟩
  have a6 := aheadA6 ⟨S, 0, none⟩
  have m1 := methA1 ⟨S, 0, none⟩
  have m2 := methA2 ⟨S, 0, none⟩
  have m3 := methA3 ⟨S, 0, none⟩
  have m5 := methA5 ⟨S, 0, none⟩
  have m6 := methA6 ⟨S, 0, none⟩
  obtain ⟨b0, b1, b2, b3, e0, e1, e2, e3, hK⟩ := hK
  obtain ⟨c0, c1, c2, c3, x0, x1, x2, x3, hN⟩ := hN
  have hd : ∀ (i x : Nat), bs[i]? = some x → x < 256 := fun i x h => hby x (List.mem_of_getElem? h)
  have C1 := Lib.hid (baU32_any S R D C bs 0 b0 b1 b2 b3 w hs (by omega) hb e0 e1 e2 e3 (hd _ _ e0) (hd _ _ e1) (hd _ _ e2) (hd _ _ e3) hSR hSD hRD)
  rw [hK] at C1
  have C2 := Lib.hid (fun (W : World) (s1 : StrA W S R D C bs (0 + 4)) => baU32_any S R D C bs 4 c0 c1 c2 c3 W s1 (by omega) hb x0 x1 x2 x3 (hd _ _ x0) (hd _ _ x1) (hd _ _ x2) (hd _ _ x3) hSR hSD hRD)
  rw [hN] at C2
  have C3 := Lib.hid (fun (W : World) (s1 : StrA W S R D C bs (4 + 4)) => baNext_any S R D C bs 8 0 W s1 (by omega) hb hby hSR hSD hRD)
  have C4 := Lib.hid (fun (W : World) (s1 : StrA W S R D C bs (8 + 0)) => baSkip_any S R D C bs 8 0 W s1 (by omega) hb hby hSR hSD hRD)
  have C5 := Lib.hid (fun (W : World) (s1 : StrA W S R D C bs (8 + 0)) => baCount_any S R D C bs 8 W s1)
  have Hp := Lib.hid hp
  have t1 : (bits BinOp.and IntKind.u32 ((12346 : Nat) : Int) 65535 == 12347) = false := by decide
  have E1 := fun (W : World) => Lib.run_eql_slice_nil (P := Tryz.prog) W 27 5 none 0 0 0 0 undU8s
  have q1 := nilcA1
  have q2 := nilcA2
  have q3 := nilcA3
  clear hd hby hp hs e0 e1 e2 e3 hK x0 x1 x2 x3 hN
  go_enter Tryz.func39, Tryz.ntmps39
  go_wp2_with (first
    | (go_at_call 275; refine C1.out.mono ?_; rintro ed w1 ⟨rfl, s1, k1⟩)
    | (go_at_call 272; refine (baSafe_any S w1).mono ?_; rintro ed w2 ⟨rfl, rfl⟩)
    | (go_at_call 275; refine (C2.out w1 s1).mono ?_; rintro ed w2 ⟨rfl, s2, k2⟩)
    | (go_at_call 271; refine (C3.out w2 s2).mono ?_; rintro ed w3 ⟨A, c, rfl, r3, s3, k3, nA, nB⟩)
    | (go_at_call 61; refine (bs16_any A c 0 _ w3 (by omega) r3).mono ?_; rintro ed w4 ⟨kb, rfl, hkb, k4, gkb⟩)
    | (go_at_call 276; refine (C4.out w4 (s3.mild k4)).mono ?_; rintro ed w5 ⟨rfl, s5, k5⟩; have hp5 := (((Hp.out.kept k1 (by rintro (h | h); exact hpR h; exact hpS h)).kept k2 (by rintro (h | h); exact hpR h; exact hpS h)).kept k3 (by rintro (h | h); exact hpR h; exact hpS h)).kept k4 id; have hp6 := hp5.kept k5 (by rintro (h | h); exact hpR h; exact hpS h); have g0 := hp6.cell 0; have g1 := hp6.cell 1; have g2 := hp6.cell 2; have gf := fun o => hp6.free o))
  refine wp_loop_rounds 1 ?_
  rw [rounds_succ]
  go_wp2_with (first
    | (go_at_call 270; refine (C5.out _ (s5.kept (T := fun k => k = p) (Kept.setCell (S := fun k => k = p) (p := ⟨p, 2, none⟩) (Kept.setCell (S := fun k => k = p) (p := ⟨p, 0, none⟩) (Kept.one w5 p 1 _) (fun _ => rfl) _) (fun _ => rfl) _) (Ne.symm hpS) (Ne.symm hpR) (Ne.symm hpD))).mono ?_; rintro ed w7 ⟨rfl, rfl⟩))
  go_ret2
  exact ⟨rfl, ((hp6.set 1 _).set 0 _).set 2 _, (((((k1.trans k2).trans k3).trans (k4.mono (fun _ _ => False.elim))).trans k5).mono (fun _ _ h => .inr h)).trans ((Kept.setCell (S := fun k => k = p) (p := ⟨p, 2, none⟩) (Kept.setCell (S := fun k => k = p) (p := ⟨p, 0, none⟩) (Kept.one w5 p 1 _) (fun _ => rfl) _) (fun _ => rfl) _).mono (fun _ _ h => .inl h))⟩
end Go.Proofs
