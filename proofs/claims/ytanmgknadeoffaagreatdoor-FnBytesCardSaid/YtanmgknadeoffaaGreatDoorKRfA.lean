/-
  roaringArray.readFrom over a stream (A).
-/
import Derived.Test.YtanmgknadeoffaaGreatDoorKRtA
namespace Go.Proofs
open Go.RowKit Go.Roar

theorem FRel.orA {w : World} {T : Nat → Prop} {H p : Nat} {v : Value} {m : Nat} {fl : Option (List Nat)} (h : FRel w T H v m fl) (hne : ∀ (f : List Nat) (a : Addr) (c : Nat), RB w (some a) m c f → ¬ a.block = p) : FRel w (fun k => k = p ∨ T k) H v m fl := by
  rcases h with h | ⟨f, a, c, h1, h2, h3, h4, h5⟩
  · exact .inl h
  · exact .inr ⟨f, a, c, h1, h2, h3, fun h => h.elim (hne f a c h3) h4, h5⟩
theorem RB.ne_ofA {w : World} {a : Addr} {n c p : Nat} {tp : TypeId} {bs : List Nat} {x0 x1 x2 : Option Addr} {y0 y1 y2 z0 z1 z2 : Nat} {b : Bool} (h : RB w (some a) n c bs) (hn : 0 < n) (hp : Blk w p tp [.slice x0 y0 z0, .slice x1 y1 z1, .slice x2 y2 z2, .bool b]) : ¬ a.block = p := by
  intro e
  obtain ⟨g, o, e', hc⟩ := h.2.2.2 hn
  cases e'
  subst e
  obtain ⟨x, hx⟩ : ∃ x, bs[0]? = some x := ⟨_, List.getElem?_eq_getElem (by have := h.1; omega)⟩
  have h1 := hc 0 x hx
  have h2 := hp.cell (o + 0)
  rw [h1] at h2
  match o, h2 with
  | 0, h2 => simp at h2
  | 1, h2 => simp at h2
  | 2, h2 => simp at h2
  | 3, h2 => simp at h2
  | n + 4, h2 => simp at h2

set_option maxRecDepth 100000 in
set_option maxHeartbeats 8000000 in
theorem rfA_any (S R D C : Nat) (bs : List Nat) (p : Nat) (tp : TypeId) (n K p1 p3 : Nat) (fl : Option (List Nat)) (hdr ks cs kd : List Nat) (bodies : List (List Nat)) (pos : Nat → Nat) (w : World)
    (hs : StrA w S R D C bs (0)) (hp : Blk w p tp [.slice none 0 0, .slice none 0 0, .slice none 0 0, .bool false]) (hb : bs.length ≤ 1000000000) (hby : ∀ b ∈ bs, b < 256) (hSR : S ≠ R) (hSD : S ≠ D) (hRD : R ≠ D) (hpS : p ≠ S) (hpD : p ≠ D)
    (hpR : p ≠ R)
    (hn : 0 < n) (hn2 : n ≤ 65536) (hK : ∃ b0 b1 b2 b3, bs[0]? = some b0 ∧ bs[0 + 1]? = some b1 ∧ bs[0 + 2]? = some b2 ∧ bs[0 + 3]? = some b3 ∧ leN [b0, b1, b2, b3] = K) (h4 : 4 ≤ bs.length)
    (hfl : (fl = none ∧ K = 12346 ∧ p1 = 8 ∧ ∃ b0 b1 b2 b3, bs[4]? = some b0 ∧ bs[4 + 1]? = some b1 ∧ bs[4 + 2]? = some b2 ∧ bs[4 + 3]? = some b3 ∧ leN [b0, b1, b2, b3] = n) ∨
      (fl = some ((bs.drop 4).take ((n + 7) / 8)) ∧ K % 65536 = 12347 ∧ K / 65536 + 1 = n ∧ p1 = 4 + (n + 7) / 8))
    (hp1 : p1 + 4 * n ≤ bs.length) (hhdr : hdr = (bs.drop p1).take (4 * n)) (hp3 : p3 = if fl = none ∨ 4 ≤ n then p1 + 8 * n else p1 + 4 * n) (hp3' : p3 ≤ bs.length) (hpos : pos 0 = p3)
    (hlk : ks.length = n) (hlc : cs.length = n) (hld : kd.length = n) (hlb : bodies.length = n)
    (hit : ∀ (i key card1 kind : Nat) (body : List Nat), ks[i]? = some key → cs[i]? = some card1 → kd[i]? = some kind → bodies[i]? = some body → RItem bs hdr fl pos i key card1 kind body) :
    Calls Tryz.prog 39 #[.pointer (some ⟨p, 0, none⟩), .iface 121 (.pointer (some ⟨S, 0, none⟩)), .slice none 0 0] w fun e w' => e = .returned (.tuple #[.int .i64 (pos n : Nat), .nilIface]) ∧
      ∃ gk gc gw cvs, Blk w' p tp [.slice (some ⟨gk, 0, none⟩) n n, .slice (some ⟨gc, 0, none⟩) n n, .slice (some ⟨gw, 0, none⟩) n n, .bool false] ∧ Blk w' gk 44 (u16s ks) ∧ Blk w' gc 83 cvs ∧ cvs.length = n ∧
        (∀ (i card1 kind : Nat) (c : Value) (body : List Nat), cvs[i]? = some c → cs[i]? = some card1 → kd[i]? = some kind → bodies[i]? = some body → CRep w' w.heap.size c kind (card1 + 1) body) ∧
        Kept (fun k => k = p ∨ k = R ∨ k = S) w w' := by
  have a1 := aheadA1 ⟨S, 0, none⟩
  have a2 := aheadA2 ⟨S, 0, none⟩
  have a3 := aheadA3 ⟨S, 0, none⟩
  have a4 := aheadA4 ⟨S, 0, none⟩
  have a5 := aheadA5 ⟨S, 0, none⟩
  have a6 := aheadA6 ⟨S, 0, none⟩
  have m1 := methA1 ⟨S, 0, none⟩
  have m2 := methA2 ⟨S, 0, none⟩
  have m3 := methA3 ⟨S, 0, none⟩
  have m4 := methA4 ⟨S, 0, none⟩
  have m5 := methA5 ⟨S, 0, none⟩
  have m6 := methA6 ⟨S, 0, none⟩
  obtain ⟨b0, b1, b2, b3, e0, e1, e2, e3, hK⟩ := hK
  have hd : ∀ (i x : Nat), bs[i]? = some x → x < 256 := fun i x h => hby x (List.mem_of_getElem? h)
  have hKl : K < 4294967296 := by
    have := leN_lt [b0, b1, b2, b3] (by intro b hb'; simp at hb'; rcases hb' with rfl | rfl | rfl | rfl; exact hd _ _ e0; exact hd _ _ e1; exact hd _ _ e2; exact hd _ _ e3)
    simpa [hK] using this
  have C1 := Lib.hid (baU32_any S R D C bs 0 b0 b1 b2 b3 w hs h4 hb e0 e1 e2 e3 (hd _ _ e0) (hd _ _ e1) (hd _ _ e2) (hd _ _ e3) hSR hSD hRD)
  rw [hK] at C1
  have Hd := Lib.hid hd
  have Hby := Lib.hid hby
  have Hp := Lib.hid hp
  have Hs := Lib.hid hs
  have Hit := Lib.hid hit
  have Hfl := Lib.hid hfl
  have Hhdr := Lib.hid hhdr
  have Hp3 := Lib.hid hp3
  have Hpos := Lib.hid hpos
  have Hlk := Lib.hid hlk
  have Hlc := Lib.hid hlc
  have Hld := Lib.hid hld
  have Hlb := Lib.hid hlb
  clear hd hby hp hs hit hfl hhdr hp3 hpos hlk hlc hld hlb e0 e1 e2 e3 hK
  go_enter Tryz.func39, Tryz.ntmps39
  go_upto_if 62 with (first
    | (go_at_call 275; refine C1.out.mono ?_; rintro ed w1 ⟨rfl, s1, k1⟩)
    | (go_at_call 272; refine (baSafe_any S w1).mono ?_; rintro ed w2 ⟨rfl, rfl⟩))
  go_cut [9, 11, 12] (fun s9 s11 s12 wx => s9 = .nilIface ∧ s11 = .int .u32 (n : Int) ∧ Hid (FRel wx (fun k => k = R ∨ k = S) wx.heap.size s12 ((n + 7) / 8) fl) ∧ Hid (StrA wx S R D C bs (p1)) ∧ Hid (Kept (fun k => k = R ∨ k = S) w wx))
  case first =>
    as_aux_lemma =>
      rcases Hfl.out with ⟨rfl, rfl, rfl, c0, c1, c2, c3, x0, x1, x2, x3, hN⟩ | ⟨rfl, hk, hk', rfl⟩
      · have t1 : (bits BinOp.and IntKind.u32 ((12346 : Nat) : Int) 65535 == 12347) = false := by decide
        have C2 := Lib.hid (baU32_any S R D C bs 4 c0 c1 c2 c3 w1 s1 (by omega) hb x0 x1 x2 x3 (Hd.out _ _ x0) (Hd.out _ _ x1) (Hd.out _ _ x2) (Hd.out _ _ x3) hSR hSD hRD)
        rw [hN] at C2
        clear x0 x1 x2 x3 hN
        go_wp2_with (go_at_call 275; refine C2.out.mono ?_; rintro ed w2 ⟨rfl, s2, k2⟩)
        go_meet
        case rel => exact ⟨rfl, rfl, .inl ⟨rfl, rfl⟩, s2, k1.trans k2⟩
      · have t1 : (bits BinOp.and IntKind.u32 (K : Int) 65535 == 12347) = true := by
          rw [show (65535 : Int) = ((65535 : Nat) : Int) from rfl, u32_and_nat K 65535 hKl (by decide), show K &&& 65535 = K % 65536 from Nat.and_two_pow_sub_one_eq_mod K 16, hk]; rfl
        have q1 : (K : Int) / 65536 = (n : Int) - 1 := by omega
        have q2 : ((n : Int) + 7) / 8 = (((n + 7) / 8 : Nat) : Int) := by omega
        have C2 := Lib.hid (baNext_any S R D C bs 4 ((n + 7) / 8) w1 s1 (by omega) hb Hby.out hSR hSD hRD)
        rw [← q2] at C2
        clear hk hk' q2
        go_wp2_with (go_at_call 271; refine C2.out.mono ?_; rintro ed w2 ⟨A, c, rfl, r2, s2, k2, nA, nB⟩)
        go_meet
        case rel =>
          obtain ⟨a, rfl⟩ := Option.ne_none_iff_exists'.1 nA
          exact ⟨rfl, by go_num, .inr ⟨_, a, c, rfl, rfl, r2, nB a rfl, r2.lt (by omega)⟩, s2, k1.trans k2⟩
  case rest =>
    obtain ⟨rfl, rfl, F1, S1, K1⟩ := hcut
    have hle1 : p1 + 2 * (2 * n) ≤ bs.length := by omega
    have C3 := baNext_any S R D C bs p1 (2 * (2 * n)) wc S1.out hle1 hb Hby.out hSR hSD hRD
    rw [show ((2 * (2 * n) : Nat) : Int) = 4 * (n : Int) by omega] at C3
    have C3 := Lib.hid C3
    have i1 : (n : Int) ≤ 65536 := by omega
    obtain ⟨bb, hbb⟩ : ∃ bb : Bool, bb = decide (fl = none ∨ 4 ≤ n) := ⟨_, rfl⟩
    have Hbb := Lib.hid hbb
    clear hbb
    go_upto_region 30 with (first
      | (go_at_call 271; refine C3.out.mono ?_; rintro ed w3 ⟨A, c, rfl, r3, s3, k3, nA, nB⟩)
      | (go_at_call 61; refine (bs16_any A c (2 * n) _ w3 (by omega) r3).mono ?_; rintro ed w4 ⟨kb, rfl, hkb, k4, gkb⟩))
    go_cut [121] (fun s wx => s = .bool bb ∧ w4 = wx)
    case first =>
      as_aux_lemma =>
        have E := Lib.run_eql_slice_nil (P := Tryz.prog)
        rcases F1 with ⟨rfl, rfl⟩ | ⟨f, a, c', rfl, rfl, r5, r6, r7⟩
        · obtain rfl : bb = true := by rw [Hbb.out]; simp
          have E1 := fun (W : World) => E W 27 5 none 0 0 0 0 undU8s
          clear E
          go_wp2
          go_meet
          case rel => exact ⟨rfl, rfl⟩
        · have E1 := fun (W : World) => E W 27 5 (some a) ((n + 7) / 8) c' 0 0 undU8s
          have E2 : bb = decide (4 ≤ n) := by rw [Hbb.out]; simp
          clear E
          by_cases h4 : 4 ≤ n
          · obtain rfl : bb = true := by rw [E2]; simp [h4]
            clear E2
            go_wp2
            go_meet
            case rel => exact ⟨by simp; omega, rfl⟩
          · obtain rfl : bb = false := by rw [E2]; simp [h4]
            clear E2
            go_wp2
            go_meet
            case rel => exact ⟨by simp; omega, rfl⟩
    case rest =>
      obtain ⟨rfl, rfl⟩ := hcut
      have hq3 : p3 = if bb = true then p1 + 2 * (2 * n) + n * 4 else p1 + 2 * (2 * n) := by
        rw [Hp3.out, Hbb.out]
        by_cases h : fl = none ∨ 4 ≤ n
        · rw [if_pos h, if_pos (by simpa using h)]; omega
        · rw [if_neg h, if_neg (by simpa using h)]; omega
      have Hq3 := Lib.hid hq3
      have s4 := s3.mild k4
      clear hq3
      go_upto_if 121 with (fail)
      go_cut [] (fun wx => Hid (StrA wx S R D C bs (p3)) ∧ Hid (Kept (fun k => k = R ∨ k = S) w4 wx))
      case first =>
        as_aux_lemma =>
          cases bb
          · have hq3 := Hq3.out
            rw [if_neg (by simp)] at hq3
            go_wp2
            go_meet
            case rel => exact ⟨by rw [hq3]; exact s4, Kept.refl _ _⟩
          · have hq3 := Hq3.out
            rw [if_pos rfl] at hq3
            have C4 := baSkip_any S R D C bs (p1 + 2 * (2 * n)) (n * 4) w4 s4 (by omega) hb Hby.out hSR hSD hRD
            rw [show ((n * 4 : Nat) : Int) = (n : Int) * 4 by omega] at C4
            have C4 := Lib.hid C4
            have Hq := Lib.hid hq3
            clear hq3
            go_wp2_with (go_at_call 276; refine C4.out.mono ?_; rintro ed w5 ⟨rfl, s5, k5⟩)
            go_meet
            case rel => exact ⟨by rw [Hq.out]; exact s5, k5⟩
      case rest =>
        obtain ⟨S5, K5⟩ := hcut
        have lp := Hp.out.lt
        have kA : Kept (fun k => k = p ∨ k = R ∨ k = S) w w4 := ((K1.out.trans k3).trans (k4.mono (fun _ _ => False.elim))).mono (fun _ _ h => .inr h)
        have kw : Kept (fun k => k = p ∨ k = R ∨ k = S) w wc := kA.trans (K5.out.mono (fun _ _ h => .inr h))
        have lS : S < w.heap.size := by obtain ⟨_, _, _, _, h⟩ := Hs.out.blk; exact h.lt
        have lD : D < w.heap.size := by obtain ⟨_, h⟩ := Hs.out.rd.data; exact h.lt
        have lR : R < w.heap.size := by obtain ⟨_, h⟩ := Hs.out.rd.blk; exact h.lt
        have hp0 : Blk wc p tp _ := (((Hp.out.kept K1.out (by rintro (h | h); exact hpR h; exact hpS h)).kept k3 (by rintro (h | h); exact hpR h; exact hpS h)).kept k4 id).kept K5.out (by rintro (h | h); exact hpR h; exact hpS h)
        have hz1 := K1.out.size
        have hz3 := k3.size
        have hz4 := k4.size
        have hz5 := K5.out.size
        have hlb' := hkb.lt
        have hkb0 := hkb.kept K5.out (by omega)
        have hlen : (decK 2 hdr).length = 2 * n := by rw [Hhdr.out]; simp; omega
        rw [show 2 * (2 * n) = 4 * n by omega, ← Hhdr.out] at hkb0
        have hF0 := ((F1.kept k3 (fun b _ h => h)).kept k4 (fun b _ h => h.elim)).kept K5.out (fun b _ h => h)
        have hF1 := FRel.orA hF0 (fun f a c h3 => RB.ne_ofA h3 (by omega) hp0)
        have S6 : StrA wc S R D C bs (pos 0) := by rw [Hpos.out]; exact S5.out
        have fin := rtA_any S R D C bs p kb tp n fl hdr ks cs kd bodies pos w wc _ _ S6 hp0 hkb0 kw lp lS lD (by omega) hb Hby.out hSR hSD hRD hpS hpD hpR lR hn hn2 hF1 (by omega) Hlk.out Hlc.out Hld.out Hlb.out hlen Hit.out
        refine (by assumption : ∀ (a : Act) (w : World), Code.wp Tryz.prog _ _ a w → _) _ _ ?_
        exact fin _ _ _ _ _ _ _ _ _ _ _ _ _ _ _ _ _ _ _ _ _ _ _ _ _ _ _ _ _ _ _ _ _ _ _ _ _ _ _ _ _ _ _ _ _ _ _ _ _ _ _ _ _ _ _ _ _ _ _ _ _ _ _ _ _ _ _ _ _ _ _ _ _ _ _ _ _ _ _ _ _ _ _ _ _ _ _ _ _ _ _ _ _ _ _ _ _ _ _ _ _ _ _ _ _ _ _ _ _ _ _ _ _ _ _ _ _ _ _ _ _ _ _ _ _ _ _ _ _ _ _ _ _ _ _ _ _ _ _ _ _ _ _ _ _ _ _ _ _ _ _ _ _ _ _ _ _ _ _ _ _ _ _ _ _ _ _ _ _ _ _ _ _ _ _ _ _ _ _ _ _ _ _ _ _ _ _ _ _ _ _ _ _ _ _ _ _ _ _ _ _ _ _ _ _ _ _ _ _ _ _ _ _ _ _ _ _ _ _ _ _ _ _ _ _ _ _ _ _ _ _ _ _ _ _ _ _ _ _ _ _ _ _ _ _ _ _ _ _ _ _ _ _ _ _ _ _ _ _ _ _ _ _ _ _ _ _ _ _ _ _ _ _ _ _ _ _ _ _ _ _ _ _ _ _ _ _ _ _ _ _ _ _ _ _ _ _ _ _ _ _ _ _ _ _ _ _ _ _ _ _ _ _ _ _ _
end Go.Proofs
