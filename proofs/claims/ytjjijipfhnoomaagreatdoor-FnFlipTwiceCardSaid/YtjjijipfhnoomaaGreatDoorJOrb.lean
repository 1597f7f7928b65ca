/-
  bitmapContainer.contains, iremove, iremoveReturnMinimized: one number is taken out of bits.
  bitmapContainer.iremoveRange, inot: a range is taken out of bits, turned round in bits; containers that may be empty.
  bitmapContainer.inot: a range of bits is turned round.
-/
import Derived.Test.YtjjijipfhnoomaaGreatDoorJRbp
import Derived.Test.YtjjijipfhnoomaaGreatDoorJKo
import Derived.Test.YtjjijipfhnoomaaGreatDoorJNb
import Derived.Test.YtjjijipfhnoomaaGreatDoorJWx
import Derived.Test.YtjjijipfhnoomaaGreatDoorJSr
import Derived.Deep.DeepCutAuto
import Derived.Deep.RegionWith
import Derived.Deep.AppendLies
namespace Go.Roar
open Go.RowKit Go.Proofs
/-- A container, or an array that has no numbers left. -/
def KE (c : Value) (l : List Nat) (L : List HA) : Prop := (∃ k, KC c l k L) ∨ (l = [] ∧ ∃ p v, c = .iface 82 (.pointer (some ⟨p, 0, none⟩)) ∧ L = AC p v [])
theorem KE.some {c : Value} {l : List Nat} {L : List HA} (h : KE c l L) (hne : l ≠ []) : ∃ k, KC c l k L := by
  rcases h with h | ⟨h, _⟩
  · exact h
  · exact absurd h hne
/-- What taking a number out of a container leads to. -/
def RemPost (l : List Nat) (x : Nat) (F : List Nat) (w : World) (ed : Ending) (w' : World) : Prop :=
  ∃ t v L, ed = .returned (.iface t v) ∧ KE (.iface t v) (wo l x) L ∧ SS w F w' L
end Go.Roar
namespace Go.Proofs
open Go.RowKit Go.Roar
theorem and63 : ∀ m : Fin 1024, ∀ k : Fin 64, bits .and .u64 ((64 * m.val + k.val : Nat) : Int) 63 = (k.val : Int) := by decide +kernel
theorem and63n (x : Nat) (hx : x < 65536) : bits .and .u64 (x : Int) 63 = ((x % 64 : Nat) : Int) := by
  have := and63 ⟨x / 64, by omega⟩ ⟨x % 64, by omega⟩
  simpa [Nat.div_add_mod] using this

set_option maxRecDepth 100000 in
theorem bcHas_any (p g c : Nat) (ws : List Nat) (x y : Nat) (w : World) (hy : ws[x / 64]? = some y) (hyl : y < 18446744073709551616) (hx : x < 65536)
    (h1 : w.cell? ⟨p, 1, none⟩ = some (.slice (some ⟨g, 0, none⟩) 1024 c)) (h2 : w.cell? ⟨g, x / 64, none⟩ = some (.int .u64 (y : Int))) :
    Calls Tryz.prog 260 #[.pointer (some ⟨p, 0, none⟩), .int .u16 (x : Int)] w fun ed w' => ed = .returned (.bool (bitOf ws x)) ∧ w = w' := by
  have HB := Lib.hid ((bitOf_wordR hy).trans (one_bit y (k := x % 64)).symm)
  obtain ⟨s1, s2⟩ := shl_one ⟨x % 64, by omega⟩
  dsimp only at s1 s2
  have a1 := and63n x hx
  obtain ⟨M, hM⟩ : ∃ M, M = y &&& 2 ^ (x % 64) := ⟨_, rfl⟩
  have e1 : bits .and .u64 (y : Int) (IntKind.u64.wrap (2 ^ (x % 64))) = (M : Int) := by rw [s1, hM]; exact and64 _ _ hyl s2
  have HM := Lib.hid hM
  clear hM s1 s2 hy
  go_enter Tryz.func260, Tryz.ntmps260
  go_wp2_with fail
  go_ret
  refine ⟨?_, rfl⟩
  have hb : ((M : Int) != 0) = decide (M ≠ 0) := by by_cases h : M = 0 <;> simp [h]
  show Ending.returned (Value.bool ((M : Int) != 0)) = _
  rw [HB.out, ← HM.out, hb]

set_option maxRecDepth 100000 in
set_option maxHeartbeats 1000000 in
theorem bcIrem_any (p g c : Nat) (ws l : List Nat) (x : Nat) (w : World) (hl : ws.length = 1024) (hb : ∀ y ∈ ws, y < 18446744073709551616) (h0 : restFrom (bitOf ws) 0 = l) (hx : x < 65536)
    (h : Parts w (BC p l.length (.slice (some ⟨g, 0, none⟩) 1024 c) ws)) :
    Calls Tryz.prog 274 #[.pointer (some ⟨p, 0, none⟩), .int .u16 (x : Int)] w fun ed w' => ed = .returned (.bool (decide (x ∈ l))) ∧ ∃ ws', ws'.length = 1024 ∧ (∀ y ∈ ws', y < 18446744073709551616) ∧ restFrom (bitOf ws') 0 = wo l x ∧
      SS w (foot (BC p l.length (.slice (some ⟨g, 0, none⟩) 1024 c) ws)) w' (BC p (wo l x).length (.slice (some ⟨g, 0, none⟩) 1024 c) ws') := by
  have S0 := SS.init h
  have HS0 := Lib.hid S0
  generalize foot (BC p l.length (.slice (some ⟨g, 0, none⟩) 1024 c) ws) = F at *
  have hsl : Rising l := by rw [← h0]; exact rest_sorted _
  have hlen : l.length ≤ 65536 := by rw [← h0]; exact sorted_count (rest_sorted _) 65536 (rest_lt _)
  obtain ⟨y, hy⟩ : ∃ y, ws[x / 64]? = some y := ⟨_, List.getElem?_eq_getElem (by omega)⟩
  have hgy : ws.getD (x / 64) 0 = y := by rw [List.getD_eq_getElem?_getD, hy]; rfl
  have hyl := hb y (List.mem_of_getElem? hy)
  have hmem : bitOf ws x = decide (x ∈ l) := by
    rw [Bool.eq_iff_iff, decide_eq_true_eq, ← h0, rest_mem]
    exact ⟨fun h => ⟨hx, h⟩, fun h => h.2⟩
  have HN := Lib.hid (off_nums hl hx)
  rw [h0] at HN
  simp only [BC] at S0
  have c0 := S0.cell 0 rfl 0 rfl
  have c1 := S0.cell 0 rfl 1 rfl
  have f0 := S0.free 0 rfl 0
  have ca := (Own.cellAt (S0.get (A := O 1 23 (.slice (some ⟨g, 0, none⟩) 1024 c) 1024 (u64s ws)) (by simp)) (u64s_get hy)).1
  have HC := bcHas_any p g c ws x y w hy hyl hx c1 ca
  rw [hmem] at HC
  by_cases hm : x ∈ l
  · rw [decide_eq_true hm] at HC ⊢
    have HC := Lib.hid HC
    have hw := wo_length hsl hm
    obtain ⟨m, hmm⟩ : ∃ m, m = (wo l x).length := ⟨_, rfl⟩
    rw [← hmm] at hw ⊢
    obtain ⟨s1, s2⟩ := shl_one ⟨x % 64, by omega⟩
    dsimp only at s1 s2
    obtain ⟨Z, hZ⟩ : ∃ Z, Z = y &&& (18446744073709551615 - 2 ^ (x % 64)) := ⟨_, rfl⟩
    have hZl := off_lt y (x % 64) hyl
    rw [← hZ] at hZl
    have e1 : bits .andNot .u64 (y : Int) (IntKind.u64.wrap (2 ^ (x % 64))) = (Z : Int) := by rw [s1, hZ]; exact u64_andNot_nat _ _ hyl s2
    have HZ := Lib.hid (show ws.set (x / 64) Z = offAt ws (x / 64) (x % 64) by unfold offAt; rw [hgy, hZ])
    have q1 : (l.length : Int) - 1 = (m : Int) := by omega
    have S1 := SS.store (L := []) S0 0 (.int .i64 (m : Int))
    have d0 := S1.cell 0 rfl 0 rfl
    have d1 := S1.cell 0 rfl 1 rfl
    have da := Own.cellAt (S1.get (A := O 1 23 (.slice (some ⟨g, 0, none⟩) 1024 c) 1024 (u64s ws)) (by simp)) (u64s_get hy)
    have S2 := Lib.hid (SS.storeO (L := [B p 122 [.int .i64 (m : Int), .slice (some ⟨g, 0, none⟩) 1024 c]]) (R := []) S1 (x / 64) (by simp [u64s]; omega) (.int .u64 (Z : Int)))
    have HB := Lib.hid hb
    have HL := Lib.hid hl
    clear s1 s2 hZ hmm hw hmem hgy hy h0 h S0 S1 hb hl hm hsl c1 ca hyl
    go_enter Tryz.func274, Tryz.ntmps274
    go_wp2_with (first
      | (go_at_call 260; (with_reducible refine HC.out.mono ?_); rintro ed w1 ⟨rfl, rfl⟩)
      | fail)
    go_ret
    have S3 := S2.out
    rw [u64s_set, HZ.out] at S3
    refine ⟨rfl, offAt ws (x / 64) (x % 64), by unfold offAt; simp [HL.out], ?_, HN.out, S3⟩
    rw [← HZ.out]
    intro z hz
    rcases List.mem_or_eq_of_mem_set hz with hz | rfl
    · exact HB.out z hz
    · exact hZl
  · rw [decide_eq_false hm] at HC ⊢
    have HC := Lib.hid HC
    have HR := Lib.hid (And.intro hl (And.intro hb (And.intro h0 (wo_none hm))))
    clear hmem hgy hy h0 h S0 hb hl hm hsl c1 ca c0 f0 hyl HN
    go_enter Tryz.func274, Tryz.ntmps274
    go_wp2_with (first
      | (go_at_call 260; (with_reducible refine HC.out.mono ?_); rintro ed w1 ⟨rfl, rfl⟩)
      | fail)
    go_ret
    rw [HR.out.2.2.2]
    exact ⟨rfl, ws, HR.out.1, HR.out.2.1, HR.out.2.2.1, HS0.out⟩

set_option maxRecDepth 100000 in
set_option maxHeartbeats 1000000 in
theorem bcRem_any (p g c : Nat) (ws l : List Nat) (x : Nat) (w : World) (hl : ws.length = 1024) (hb : ∀ y ∈ ws, y < 18446744073709551616) (h0 : 4096 < l.length) (hx0 : restFrom (bitOf ws) 0 = l) (hx : x < 65536)
    (h : Parts w (BC p l.length (.slice (some ⟨g, 0, none⟩) 1024 c) ws)) :
    Calls Tryz.prog 276 #[.pointer (some ⟨p, 0, none⟩), .int .u16 (x : Int)] w fun ed w' => RemPost l x (foot (BC p l.length (.slice (some ⟨g, 0, none⟩) 1024 c) ws)) w ed w' := by
  have hsl : Rising l := by rw [← hx0]; exact rest_sorted _
  have hbl : ∀ y ∈ l, y < 65536 := by rw [← hx0]; exact rest_lt _
  have IR := bcIrem_any p g c ws l x w hl hb hx0 hx h
  have HW := Lib.hid (And.intro (wo_rising hsl x) (wo_lt hbl x))
  have TA := Lib.hid (fun (ws' : List Nat) (W : World) (s1 : ws'.length = 1024) (s2 : ∀ y ∈ ws', y < 18446744073709551616) (s3 : restFrom (bitOf ws') 0 = wo l x) (hP : Parts W (BC p (wo l x).length (.slice (some ⟨g, 0, none⟩) 1024 c) ws')) => bcToArr_any p g c ws' (wo l x) W s1 s2 s3 hP)
  have hmax : l.length ≤ 65536 := sorted_count hsl 65536 hbl
  unfold RemPost
  generalize foot (BC p l.length (.slice (some ⟨g, 0, none⟩) 1024 c) ws) = F at *
  by_cases hm : x ∈ l
  · rw [decide_eq_true hm] at IR
    have IR := Lib.hid IR
    have hw := wo_length hsl hm
    generalize hmm : (wo l x).length = m at *
    have Hm := Lib.hid hmm
    clear h hb hx0 hsl hbl hm hmm hl
    by_cases hc : m = 4096
    · have hcI : ((m : Int) == 4096) = true := by rw [beq_iff_eq]; omega
      have i2 : (m : Int) = 4096 := by omega
      have Hc := Lib.hid hc
      clear hc hw h0
      go_enter Tryz.func276, Tryz.ntmps276
      go_wp2_with (first
        | (go_at_call 274; (with_reducible refine IR.out.mono ?_); rintro ed w1 ⟨rfl, ws', s1, s2, s3, s4⟩; have S4 := Lib.hid s4; have k0 := s4.cell 0 rfl 0 rfl; have TA2 := Lib.hid (TA.out ws' w1 s1 s2 s3 s4.sep); clear s1 s2 s3 s4)
        | (go_at_call 157; (with_reducible refine TA2.out.mono ?_); rintro ed w2 ⟨q, v, rfl, hS⟩; have S5 := Lib.hid (SS.join S4.out hS); clear hS)
        | fail)
      go_ret
      have hne : wo l x ≠ [] := fun e => by
        have := Hm.out
        rw [e, Hc.out] at this
        cases this
      exact ⟨_, _, _, rfl, .inl ⟨0, KC.arr q v _ HW.out.1 HW.out.2 hne (by rw [Hm.out, Hc.out]; exact Nat.le_refl _)⟩, S5.out.left⟩
    · have i1 : ((m : Int) == 4096) = false := by rw [beq_eq_false_iff_ne]; omega
      have i2 : ¬ (m : Int) = 4096 := by omega
      have i3 : 4096 < m := by omega
      clear hc hw h0
      go_enter Tryz.func276, Tryz.ntmps276
      go_wp2_with (first
        | (go_at_call 274; (with_reducible refine IR.out.mono ?_); rintro ed w1 ⟨rfl, ws', s1, s2, s3, s4⟩; have S4 := Lib.hid s4; have k0 := s4.cell 0 rfl 0 rfl; have T := Lib.hid (And.intro s1 (And.intro s2 s3)); clear s1 s2 s3 s4)
        | fail)
      go_ret
      have S5 := S4.out
      rw [← Hm.out] at S5
      exact ⟨_, _, _, rfl, .inl ⟨1, KC.bmp p g c ws' _ T.out.1 T.out.2.1 (by rw [Hm.out]; exact i3) T.out.2.2⟩, S5⟩
  · rw [decide_eq_false hm] at IR
    have IR := Lib.hid IR
    have HN := Lib.hid (wo_none hm)
    clear h hb hx0 hsl hbl hm hl
    go_enter Tryz.func276, Tryz.ntmps276
    go_wp2_with (first
      | (go_at_call 274; (with_reducible refine IR.out.mono ?_); rintro ed w1 ⟨rfl, ws', s1, s2, s3, s4⟩; have S4 := Lib.hid s4; have T := Lib.hid (And.intro s1 (And.intro s2 s3)); clear s1 s2 s3 s4)
      | fail)
    go_ret
    exact ⟨_, _, _, rfl, .inl ⟨1, KC.bmp p g c ws' _ T.out.1 T.out.2.1 (by rw [HN.out]; exact h0) T.out.2.2⟩, S4.out⟩
end Go.Proofs

namespace Go.Roar
open Go.RowKit Go.Proofs
/-- A container, or an array or a run container that has no numbers left. -/
def KR (c : Value) (l : List Nat) (L : List HA) : Prop := KE c l L ∨ (l = [] ∧ ∃ p v, c = .iface 90 (.pointer (some ⟨p, 0, none⟩)) ∧ L = RC p v [])
theorem KR.some {c : Value} {l : List Nat} {L : List HA} (h : KR c l L) (hne : l ≠ []) : ∃ k, KC c l k L := by
  rcases h with h | ⟨h, _⟩
  · exact h.some hne
  · exact absurd h hne
/-- What a container's method that answers a container leads to. -/
def GiveR (l' : List Nat) (F : List Nat) (w : World) (ed : Ending) (w' : World) : Prop :=
  ∃ t v L, ed = .returned (.iface t v) ∧ KR (.iface t v) l' L ∧ SS w F w' L
/-- A bitmap container's parts, from its block and its words. -/
theorem BC.of {w w' : World} {p g c n : Nat} {ws : List Nat} (b1 : Blk w' p 122 [.int .i64 (n : Int), .slice (some ⟨g, 0, none⟩) 1024 c]) (b2 : WV w' g c ws) (hpg : p ≠ g) (k : Kept (fun k => k = g ∨ k = p) w w') (ws0 : List Nat) (n0 : Nat) :
    SS w (foot (BC p n0 (.slice (some ⟨g, 0, none⟩) 1024 c) ws0)) w' (BC p n (.slice (some ⟨g, 0, none⟩) 1024 c) ws) := by
  refine ⟨⟨fun A hA => ?_, by simp [BC, B, O]; exact hpg⟩, fun b hb => .inl (by simpa [BC, B, O] using hb), k.mono (fun b _ hb => by simp [BC, B, O]; rcases hb with rfl | rfl <;> simp)⟩
  simp only [BC, List.mem_cons, List.not_mem_nil, or_false] at hA
  rcases hA with rfl | rfl
  · exact b1
  · exact b2.2.2
theorem BC.to {w : World} {p g c n : Nat} {ws : List Nat} (hl : ws.length = 1024) (hb : ∀ x ∈ ws, x < 18446744073709551616) (h : Parts w (BC p n (.slice (some ⟨g, 0, none⟩) 1024 c) ws)) : Blk w p 122 [.int .i64 (n : Int), .slice (some ⟨g, 0, none⟩) 1024 c] ∧ WV w g c ws ∧ p ≠ g := by
  refine ⟨h.all (B p 122 [.int .i64 (n : Int), .slice (some ⟨g, 0, none⟩) 1024 c]) (by simp [BC]), ⟨hl, hb, h.all (O 1 23 (.slice (some ⟨g, 0, none⟩) 1024 c) 1024 (u64s ws)) (by simp [BC])⟩, ?_⟩
  have := h.nd
  simp only [BC, B, O, foot_cons, foot_nil, List.append_nil, List.cons_append, List.nil_append, blkOf_some] at this
  simpa using this
end Go.Roar
namespace Go.Proofs
open Go.RowKit Go.Roar
theorem getCardB_any (p n : Nat) (w : World) (h : w.cell? ⟨p, 0, none⟩ = some (.int .i64 (n : Int))) : Calls Tryz.prog 165 #[.pointer (some ⟨p, 0, none⟩)] w fun ed w' => ed = .returned (.int .i64 (n : Int)) ∧ w = w' := by
  go_enter Tryz.func165, Tryz.ntmps165
  go_wp2
  go_ret
  exact ⟨rfl, rfl⟩
/-- What the end of iremoveRange and inot makes of words. -/
theorem give_bc {w w1 : World} {p g c : Nat} {ws l' : List Nat} {n0 : Nat} {ws0 : List Nat} (hl : ws.length = 1024) (hb : ∀ x ∈ ws, x < 18446744073709551616) (hx : restFrom (bitOf ws) 0 = l') (S : SS w (foot (BC p n0 (.slice (some ⟨g, 0, none⟩) 1024 c) ws0)) w1 (BC p l'.length (.slice (some ⟨g, 0, none⟩) 1024 c) ws)) :
    (4096 < l'.length → GiveR l' (foot (BC p n0 (.slice (some ⟨g, 0, none⟩) 1024 c) ws0)) w (.returned (.iface 99 (.pointer (some ⟨p, 0, none⟩)))) w1) ∧
    (l'.length ≤ 4096 → Calls Tryz.prog 157 #[.pointer (some ⟨p, 0, none⟩)] w1 fun ed w' => ∃ q, ed = .returned (.pointer (some ⟨q, 0, none⟩)) ∧ GiveR l' (foot (BC p n0 (.slice (some ⟨g, 0, none⟩) 1024 c) ws0)) w (.returned (.iface 82 (.pointer (some ⟨q, 0, none⟩)))) w') := by
  refine ⟨fun h => ⟨_, _, _, rfl, .inl (.inl ⟨1, KC.bmp p g c ws _ hl hb h hx⟩), S⟩, fun h => ?_⟩
  refine (bcToArr_any p g c ws l' w1 hl hb hx S.sep).mono ?_
  rintro ed w' ⟨q, v, rfl, hS⟩
  refine ⟨q, rfl, _, _, _, rfl, ?_, (SS.join S hS).left⟩
  have hs : Rising l' := by rw [← hx]; exact rest_sorted _
  have hb : ∀ y ∈ l', y < 65536 := by rw [← hx]; exact rest_lt _
  by_cases h0 : l' = []
  · subst h0; exact .inl (.inr ⟨rfl, q, v, rfl, rfl⟩)
  · exact .inl (.inl ⟨0, KC.arr q v _ hs hb h0 h⟩)

set_option maxRecDepth 100000 in
set_option maxHeartbeats 2000000 in
theorem bcRemR_any (p g c : Nat) (ws l : List Nat) (s e : Nat) (w : World) (hl : ws.length = 1024) (hb : ∀ y ∈ ws, y < 18446744073709551616) (h0 : restFrom (bitOf ws) 0 = l) (hse : s < e) (he : e ≤ 65536)
    (h : Parts w (BC p l.length (.slice (some ⟨g, 0, none⟩) 1024 c) ws)) :
    Calls Tryz.prog 275 #[.pointer (some ⟨p, 0, none⟩), .int .i64 (s : Int), .int .i64 (e : Int)] w fun ed w' => GiveR (cutS l s e) (foot (BC p l.length (.slice (some ⟨g, 0, none⟩) 1024 c) ws)) w ed w' := by
  obtain ⟨hB, hV, hpg⟩ := BC.to hl hb h
  have C := Lib.hid (resetRC_any g c ws s e w.drew ⟨hV.1, hV.2.1, hV.2.2.kept (S := fun _ => False) (Kept.refl _ _).drew (fun _ _ => id)⟩ hse he)
  have c0 := hB.cell 0
  have c1 := hB.cell 1
  simp only [List.getElem?_cons_zero, List.getElem?_cons_succ] at c0 c1
  have HB := Lib.hid hB
  have hon : onesW ws = l.length := by rw [← card_words hl, h0]
  have hsl : Rising l := by rw [← h0]; exact rest_sorted _
  have hbl : ∀ y ∈ l, y < 65536 := by rw [← h0]; exact rest_lt _
  have hlen : l.length ≤ 65536 := sorted_count hsl 65536 hbl
  have hm : (cutS l s e).length ≤ 65536 := sorted_count (cutS_rising hsl s e) 65536 (cutS_lt hbl s e)
  have HG := Lib.hid (fun (W : World) (ws' : List Nat) (b1 : Blk W p 122 [.int .i64 ((cutS l s e).length : Int), .slice (some ⟨g, 0, none⟩) 1024 c]) (b2 : WV W g c ws') (hc : Cleared ws ws' (rgB s e)) (k : Kept (fun k => k = g ∨ k = p) w W) => give_bc b2.1 b2.2.1 (l' := cutS l s e) (by rw [cleared_nums hc, h0]) (BC.of b1 b2 hpg k ws l.length))
  have HO := Lib.hid (fun (ws' : List Nat) (hl' : ws'.length = 1024) (hc : Cleared ws ws' (rgB s e)) => show (onesW ws' : Int) - (onesW ws : Int) = ((cutS l s e).length : Int) - (l.length : Int) from by rw [hon, ← card_words hl', cleared_nums hc, h0])
  clear hB hV h h0 hl hb hsl hbl hon
  generalize foot (BC p l.length (.slice (some ⟨g, 0, none⟩) 1024 c) ws) = F at *
  generalize hml : cutS l s e = l' at *
  clear hml
  obtain ⟨n0, hn0⟩ : ∃ n, n = l.length := ⟨_, rfl⟩
  obtain ⟨m, hmm⟩ : ∃ m, m = l'.length := ⟨_, rfl⟩
  rw [← hn0] at c0 HB HO hlen
  rw [← hmm] at hm HG HO
  clear hn0 hmm
  go_enter Tryz.func275, Tryz.ntmps275
  go_wp2
  go_region_with (first
    | (go_at_call 302; (with_reducible refine C.out.mono ?_); rintro ed w1 ⟨ws', rfl, hw, hf, hk⟩; have d0 := (HB.out.drew).kept hk hpg; have e0 := d0.cell 0; have e1 := d0.free 0; simp only [List.getElem?_cons_zero] at e0)
    | fail)
  all_goals
    have ev : IntKind.i64.wrap ((n0 : Int) + ((onesW ws' : Int) - (onesW ws : Int))) = (m : Int) := by rw [HO.out ws' hw.1 hf, IntWalk.i64_in _ (by omega)]; omega
    rw [ev]
    have hB := d0.set 0 (.int .i64 (m : Int))
    have hV := hw.kept (Kept.one w1 p 0 (.int .i64 (m : Int))) (fun h => hpg h.symm)
    have k1 : Kept (fun k => k = g ∨ k = p) w w1 := ((Kept.refl (fun k => k = g) w).drew.trans hk).mono (fun _ _ h => .inl h)
    have k2 : Kept (fun k => k = g ∨ k = p) w (w1.setCell ⟨p, 0, none⟩ (.int .i64 (m : Int))) := Kept.then k1 (Kept.one w1 p 0 _) (fun _ _ h => .inr h)
    obtain ⟨g1, g2⟩ := HG.out _ ws' hB hV hf k2
    have GC := Lib.hid (getCardB_any p m _ (hB.cell 0))
    have G1 := Lib.hid g1
    have G2 := Lib.hid g2
    clear hB hV k1 k2 hf hk hw d0 e0 e1 ev g1 g2
    generalize w1.setCell ⟨p, 0, none⟩ (.int .i64 (m : Int)) = w2 at *
    by_cases h4 : m ≤ 4096
    · have j1 : (m : Int) ≤ 4096 := by omega
      have TA := Lib.hid (G2.out h4)
      go_wp2_with (first
        | (go_at_call 165; (with_reducible refine GC.out.mono ?_); rintro ed w3 ⟨rfl, rfl⟩)
        | (go_at_call 157; (with_reducible refine TA.out.mono ?_); rintro ed w4 ⟨q, rfl, hG⟩; have HG4 := Lib.hid hG; clear hG)
        | fail)
      go_ret
      exact HG4.out
    · have j1 : ¬ (m : Int) ≤ 4096 := by omega
      have TA := Lib.hid (G1.out (by omega))
      go_wp2_with (first
        | (go_at_call 165; (with_reducible refine GC.out.mono ?_); rintro ed w3 ⟨rfl, rfl⟩)
        | fail)
      go_ret
      exact TA.out
end Go.Proofs

namespace Go.Proofs
open Go.RowKit Go.Roar
set_option maxRecDepth 100000 in
theorem compCard_any (p g c : Nat) (n : Int) (ws : List Nat) (w : World) (hB : Blk w p 122 [.int .i64 n, .slice (some ⟨g, 0, none⟩) 1024 c]) (hV : WV w g c ws) :
    Calls Tryz.prog 163 #[.pointer (some ⟨p, 0, none⟩)] w fun ed w' => ed = .returned (.tuple #[]) ∧ w' = w.setCell ⟨p, 0, none⟩ (.int .i64 ((onesW ws : Nat) : Int)) := by
  have c0 := hB.cell 0
  have c1 := hB.cell 1
  have f0 := hB.free 0
  simp only [List.getElem?_cons_zero, List.getElem?_cons_succ] at c0 c1
  have C := Lib.hid (popSlice_any g c ws w hV)
  have hle := onesW_le ws
  have hl := hV.1
  have hA : onesW ws ≤ 65536 := by omega
  clear hV hB hle hl
  generalize onesW ws = A at *
  have e1 : IntKind.i64.wrap (A : Int) = (A : Int) := IntWalk.i64_in _ (by omega)
  go_enter Tryz.func163, Tryz.ntmps163
  go_wp2_with (first
    | (go_at_call 167; (with_reducible refine C.out.mono ?_); rintro ed w1 ⟨rfl, rfl⟩)
    | fail)
  go_end0
  exact ⟨rfl, rfl⟩

/-- What inot of bits leads to: above 4096 numbers they stay bits in their place. -/
def GiveB (p g c : Nat) (l' : List Nat) (F : List Nat) (w : World) (ed : Ending) (w' : World) : Prop :=
  GiveR l' F w ed w' ∧ (4096 < l'.length → ∃ ws' : List Nat, ed = .returned (.iface 99 (.pointer (some ⟨p, 0, none⟩))) ∧ ws'.length = 1024 ∧ (∀ x ∈ ws', x < 18446744073709551616) ∧ restFrom (bitOf ws') 0 = l' ∧ SS w F w' (BC p l'.length (.slice (some ⟨g, 0, none⟩) 1024 c) ws'))
theorem give_bcB {w w1 : World} {p g c : Nat} {ws l' : List Nat} {n0 : Nat} {ws0 : List Nat} (hl : ws.length = 1024) (hb : ∀ x ∈ ws, x < 18446744073709551616) (hx : restFrom (bitOf ws) 0 = l') (S : SS w (foot (BC p n0 (.slice (some ⟨g, 0, none⟩) 1024 c) ws0)) w1 (BC p l'.length (.slice (some ⟨g, 0, none⟩) 1024 c) ws)) :
    (4096 < l'.length → GiveB p g c l' (foot (BC p n0 (.slice (some ⟨g, 0, none⟩) 1024 c) ws0)) w (.returned (.iface 99 (.pointer (some ⟨p, 0, none⟩)))) w1) ∧
    (l'.length ≤ 4096 → Calls Tryz.prog 157 #[.pointer (some ⟨p, 0, none⟩)] w1 fun ed w' => ∃ q, ed = .returned (.pointer (some ⟨q, 0, none⟩)) ∧ GiveB p g c l' (foot (BC p n0 (.slice (some ⟨g, 0, none⟩) 1024 c) ws0)) w (.returned (.iface 82 (.pointer (some ⟨q, 0, none⟩)))) w') := by
  obtain ⟨h1, h2⟩ := give_bc hl hb hx S
  refine ⟨fun h => ⟨h1 h, fun _ => ⟨ws, rfl, hl, hb, hx, S⟩⟩, fun h => (h2 h).mono ?_⟩
  rintro ed w' ⟨q, rfl, hq⟩
  exact ⟨q, rfl, hq, fun h9 => absurd h9 (by omega)⟩

set_option maxRecDepth 100000 in
set_option maxHeartbeats 2000000 in
theorem bcNotB_any (p g c : Nat) (ws l : List Nat) (s e : Nat) (w : World) (hl : ws.length = 1024) (hb : ∀ y ∈ ws, y < 18446744073709551616) (h0 : restFrom (bitOf ws) 0 = l) (hse : s < e) (he : e ≤ 65536)
    (h : Parts w (BC p l.length (.slice (some ⟨g, 0, none⟩) 1024 c) ws)) :
    Calls Tryz.prog 156 #[.pointer (some ⟨p, 0, none⟩), .int .i64 (s : Int), .int .i64 (e : Int)] w fun ed w' => GiveB p g c (xorS l s e) (foot (BC p l.length (.slice (some ⟨g, 0, none⟩) 1024 c) ws)) w ed w' := by
  obtain ⟨hB, hV, hpg⟩ := BC.to hl hb h
  have CF := Lib.hid (flipRange_any g c ws s e w hV hse he)
  have C := Lib.hid (flipRC_any g c ws s e w.drew ⟨hV.1, hV.2.1, hV.2.2.kept (S := fun _ => False) (Kept.refl _ _).drew (fun _ _ => id)⟩ hse he)
  have c0 := hB.cell 0
  have c1 := hB.cell 1
  simp only [List.getElem?_cons_zero, List.getElem?_cons_succ] at c0 c1
  have HB := Lib.hid hB
  have hon : onesW ws = l.length := by rw [← card_words hl, h0]
  have hsl : Rising l := by rw [← h0]; exact rest_sorted _
  have hbl : ∀ y ∈ l, y < 65536 := by rw [← h0]; exact rest_lt _
  have hlen : l.length ≤ 65536 := sorted_count hsl 65536 hbl
  have hm : (xorS l s e).length ≤ 65536 := sorted_count (xorS_rising hsl (Nat.le_of_lt hse)) 65536 (xorS_lt hbl (Nat.le_of_lt hse) he)
  have HG := Lib.hid (fun (W : World) (ws' : List Nat) (b1 : Blk W p 122 [.int .i64 ((xorS l s e).length : Int), .slice (some ⟨g, 0, none⟩) 1024 c]) (b2 : WV W g c ws') (hc : Xored ws ws' (rgB s e)) (k : Kept (fun k => k = g ∨ k = p) w W) => give_bcB b2.1 b2.2.1 (l' := xorS l s e) (by rw [xored_nums hc (Nat.le_of_lt hse) he, h0]) (BC.of b1 b2 hpg k ws l.length))
  have HO := Lib.hid (fun (ws' : List Nat) (hl' : ws'.length = 1024) (hc : Xored ws ws' (rgB s e)) => show onesW ws' = (xorS l s e).length from by rw [← card_words hl', xored_nums hc (Nat.le_of_lt hse) he, h0])
  have HA := Lib.hid (fun (h1 : s = 0) (h2 : e = 65536) => show (xorS l s e).length = 65536 - l.length from by
    subst h1 h2
    exact xor_all hsl hbl)
  clear hV h h0 hl hb hsl hbl
  generalize foot (BC p l.length (.slice (some ⟨g, 0, none⟩) 1024 c) ws) = F at *
  generalize hml : xorS l s e = l' at *
  clear hml
  obtain ⟨n0, hn0⟩ : ∃ n, n = l.length := ⟨_, rfl⟩
  obtain ⟨m, hmm⟩ : ∃ m, m = l'.length := ⟨_, rfl⟩
  rw [← hn0] at c0 HB HA hlen hon hB
  rw [← hmm] at hm HG HO HA
  have Hon := Lib.hid hon
  clear hn0 hmm hon
  by_cases hf : e - s = 65536
  · have hme := HA.out (by omega) (by omega)
    have i1 : (e : Int) - (s : Int) = 65536 := by omega
    have hm2 : (65536 : Int) - (n0 : Int) = (m : Int) := by omega
    have HMM := Lib.hid hme
    clear hme HA C hf
    go_enter Tryz.func156, Tryz.ntmps156
    go_upto_region 8 with (first
      | (go_at_call 162; (with_reducible refine CF.out.mono ?_); rintro ed w1 ⟨rfl, ws', hw, hfl, hk⟩; have d0 := HB.out.kept hk hpg; have e0 := d0.cell 0; have e1 := d0.free 0; simp only [List.getElem?_cons_zero] at e0; have D0 := Lib.hid d0; have HW := Lib.hid hw; have HF := Lib.hid hfl; have HK := Lib.hid hk; clear hw hfl hk d0)
      | fail)
    have hB := D0.out.set 0 (.int .i64 (m : Int))
    have hV := HW.out.kept (Kept.one w1 p 0 (.int .i64 (m : Int))) (fun h => hpg h.symm)
    have k1 : Kept (fun k => k = g ∨ k = p) w w1 := HK.out.mono (fun _ _ h => .inl h)
    have k2 : Kept (fun k => k = g ∨ k = p) w (w1.setCell ⟨p, 0, none⟩ (.int .i64 (m : Int))) := Kept.then k1 (Kept.one w1 p 0 _) (fun _ _ h => .inr h)
    obtain ⟨g1, g2⟩ := HG.out _ ws' hB hV HF.out k2
    have GC := Lib.hid (getCardB_any p m _ (hB.cell 0))
    have G1 := Lib.hid g1
    have G2 := Lib.hid g2
    clear hB hV k1 k2 g1 g2
    generalize w1.setCell ⟨p, 0, none⟩ (.int .i64 (m : Int)) = w2 at *
    by_cases h4 : m ≤ 4096
    · have j1 : (m : Int) ≤ 4096 := by omega
      have TA := Lib.hid (G2.out h4)
      go_wp2_with (first
        | (go_at_call 165; (with_reducible refine GC.out.mono ?_); rintro ed w3 ⟨rfl, rfl⟩)
        | (go_at_call 157; (with_reducible refine TA.out.mono ?_); rintro ed w4 ⟨q, rfl, hG⟩; have HG4 := Lib.hid hG; clear hG)
        | fail)
      go_ret
      exact HG4.out
    · have j1 : ¬ (m : Int) ≤ 4096 := by omega
      have TA := Lib.hid (G1.out (by omega))
      go_wp2_with (first
        | (go_at_call 165; (with_reducible refine GC.out.mono ?_); rintro ed w3 ⟨rfl, rfl⟩)
        | fail)
      go_ret
      exact TA.out
  · have i1 : ¬ (e : Int) - (s : Int) = 65536 := by omega
    by_cases hf2 : 32768 < e - s
    · have i2 : (32768 : Int) < (e : Int) - (s : Int) := by omega
      have HCC := Lib.hid (fun (W : World) (n : Int) (ws' : List Nat) (b : Blk W p 122 [.int .i64 n, .slice (some ⟨g, 0, none⟩) 1024 c]) (v : WV W g c ws') (hx : Xored ws ws' (rgB s e)) => show Calls Tryz.prog 163 #[.pointer (some ⟨p, 0, none⟩)] W fun ed w' => ed = .returned (.tuple #[]) ∧ w' = W.setCell ⟨p, 0, none⟩ (.int .i64 (m : Int)) from by
        have := compCard_any p g c n ws' W b v
        rw [HO.out ws' v.1 hx] at this
        exact this)
      clear HA C hf hf2
      go_enter Tryz.func156, Tryz.ntmps156
      go_upto_region 8 with (first
        | (go_at_call 162; (with_reducible refine CF.out.mono ?_); rintro ed w1 ⟨rfl, ws', hw, hfl, hk⟩; have d0 := HB.out.kept hk hpg; have e0 := d0.cell 0; have e1 := d0.free 0; simp only [List.getElem?_cons_zero] at e0; have D0 := Lib.hid d0; have HW := Lib.hid hw; have HF := Lib.hid hfl; have HK := Lib.hid hk; have CC := Lib.hid (HCC.out w1 _ ws' d0 hw hfl); clear hw hfl hk d0)
        | (go_at_call 163; (with_reducible refine CC.out.mono ?_); rintro ed w5 ⟨rfl, rfl⟩)
        | fail)
      have hB := D0.out.set 0 (.int .i64 (m : Int))
      have hV := HW.out.kept (Kept.one w1 p 0 (.int .i64 (m : Int))) (fun h => hpg h.symm)
      have k1 : Kept (fun k => k = g ∨ k = p) w w1 := HK.out.mono (fun _ _ h => .inl h)
      have k2 : Kept (fun k => k = g ∨ k = p) w (w1.setCell ⟨p, 0, none⟩ (.int .i64 (m : Int))) := Kept.then k1 (Kept.one w1 p 0 _) (fun _ _ h => .inr h)
      obtain ⟨g1, g2⟩ := HG.out _ ws' hB hV HF.out k2
      have GC := Lib.hid (getCardB_any p m _ (hB.cell 0))
      have G1 := Lib.hid g1
      have G2 := Lib.hid g2
      clear hB hV k1 k2 g1 g2
      generalize w1.setCell ⟨p, 0, none⟩ (.int .i64 (m : Int)) = w2 at *
      by_cases h4 : m ≤ 4096
      · have j1 : (m : Int) ≤ 4096 := by omega
        have TA := Lib.hid (G2.out h4)
        go_wp2_with (first
          | (go_at_call 165; (with_reducible refine GC.out.mono ?_); rintro ed w3 ⟨rfl, rfl⟩)
          | (go_at_call 157; (with_reducible refine TA.out.mono ?_); rintro ed w4 ⟨q, rfl, hG⟩; have HG4 := Lib.hid hG; clear hG)
          | fail)
        go_ret
        exact HG4.out
      · have j1 : ¬ (m : Int) ≤ 4096 := by omega
        have TA := Lib.hid (G1.out (by omega))
        go_wp2_with (first
          | (go_at_call 165; (with_reducible refine GC.out.mono ?_); rintro ed w3 ⟨rfl, rfl⟩)
          | fail)
        go_ret
        exact TA.out
    · have i2 : ¬ (32768 : Int) < (e : Int) - (s : Int) := by omega
      clear HA CF hf hf2
      go_enter Tryz.func156, Tryz.ntmps156
      go_upto_region 7 with fail
      go_region_with (first
        | (go_at_call 164; (with_reducible refine C.out.mono ?_); rintro ed w1 ⟨ws', rfl, hw, hfl, hk⟩; have d0 := (HB.out.drew).kept hk hpg; have e0 := d0.cell 0; have e1 := d0.free 0; simp only [List.getElem?_cons_zero] at e0; have D0 := Lib.hid d0; have HW := Lib.hid hw; have HF := Lib.hid hfl; have HK := Lib.hid ((Kept.refl (fun k => k = g) w).drew.trans hk))
        | fail)
      all_goals
        have ev : IntKind.i64.wrap ((n0 : Int) + ((onesW ws' : Int) - (onesW ws : Int))) = (m : Int) := by rw [HO.out ws' hw.1 hfl, Hon.out, IntWalk.i64_in _ (by omega)]; omega
        rw [ev]
        clear hw hfl hk d0 e0 e1 ev
        have hB := D0.out.set 0 (.int .i64 (m : Int))
        have hV := HW.out.kept (Kept.one w1 p 0 (.int .i64 (m : Int))) (fun h => hpg h.symm)
        have k1 : Kept (fun k => k = g ∨ k = p) w w1 := HK.out.mono (fun _ _ h => .inl h)
        have k2 : Kept (fun k => k = g ∨ k = p) w (w1.setCell ⟨p, 0, none⟩ (.int .i64 (m : Int))) := Kept.then k1 (Kept.one w1 p 0 _) (fun _ _ h => .inr h)
        obtain ⟨g1, g2⟩ := HG.out _ ws' hB hV HF.out k2
        have GC := Lib.hid (getCardB_any p m _ (hB.cell 0))
        have G1 := Lib.hid g1
        have G2 := Lib.hid g2
        clear hB hV k1 k2 g1 g2
        generalize w1.setCell ⟨p, 0, none⟩ (.int .i64 (m : Int)) = w2 at *
        by_cases h4 : m ≤ 4096
        · have j1 : (m : Int) ≤ 4096 := by omega
          have TA := Lib.hid (G2.out h4)
          go_wp2_with (first
            | (go_at_call 165; (with_reducible refine GC.out.mono ?_); rintro ed w3 ⟨rfl, rfl⟩)
            | (go_at_call 157; (with_reducible refine TA.out.mono ?_); rintro ed w4 ⟨q, rfl, hG⟩; have HG4 := Lib.hid hG; clear hG)
            | fail)
          go_ret
          exact HG4.out
        · have j1 : ¬ (m : Int) ≤ 4096 := by omega
          have TA := Lib.hid (G1.out (by omega))
          go_wp2_with (first
            | (go_at_call 165; (with_reducible refine GC.out.mono ?_); rintro ed w3 ⟨rfl, rfl⟩)
            | fail)
          go_ret
          exact TA.out
theorem bcNot_any (p g c : Nat) (ws l : List Nat) (s e : Nat) (w : World) (hl : ws.length = 1024) (hb : ∀ y ∈ ws, y < 18446744073709551616) (h0 : restFrom (bitOf ws) 0 = l) (hse : s < e) (he : e ≤ 65536)
    (h : Parts w (BC p l.length (.slice (some ⟨g, 0, none⟩) 1024 c) ws)) :
    Calls Tryz.prog 156 #[.pointer (some ⟨p, 0, none⟩), .int .i64 (s : Int), .int .i64 (e : Int)] w fun ed w' => GiveR (xorS l s e) (foot (BC p l.length (.slice (some ⟨g, 0, none⟩) 1024 c) ws)) w ed w' :=
  (bcNotB_any p g c ws l s e w hl hb h0 hse he h).mono (fun _ _ h => h.1)
end Go.Proofs
