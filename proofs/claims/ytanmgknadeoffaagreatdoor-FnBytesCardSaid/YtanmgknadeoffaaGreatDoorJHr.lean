/-
  roaringArray.hasRunCompression.
  A set's array as it is read alone: keys and containers.
-/
import Derived.Test.YtanmgknadeoffaaGreatDoorJMd
import Derived.Test.YtanmgknadeoffaaGreatDoorJFm
namespace Go.Proofs
open Go.RowKit Go.Roar

set_option maxRecDepth 100000 in
set_option maxHeartbeats 4000000 in
theorem raHasRun_any (p : Nat) (t : TypeId) (vk vc vw : Value) (q : List Kon) (w : World) (hq : q.length ≤ 65536) (h : Parts w (BMP p t vk vc vw q)) :
    Calls Tryz.prog 68 #[.pointer (some ⟨p, 0, none⟩)] w fun e w' => e = .returned (.bool ((q.map (·.k)).any (· == 2))) ∧ w = w' := by
  obtain ⟨G, c, h0, hv⟩ := bmp_vals h
  have Hv := Lib.hid hv
  clear hv h
  generalize hn : q.length = n at *
  have Hn := Lib.hid hn
  clear hn
  go_enter Tryz.func68, Tryz.ntmps68
  go_wp2
  go_loopw [10] (fun i wr => ∃ (k : Nat), i = .int .i64 (k : Int) ∧ k ≤ n ∧ Hid (∀ (i : Nat) (x : Kon), i < k → q[i]? = some x → x.k ≠ 2) ∧ w = wr) (fun i _ => n - (intOf i).toNat)
  case atStart => exact ⟨0, rfl, Nat.zero_le _, Lib.hid (fun i x hi => by omega), rfl⟩
  case round =>
    obtain ⟨k, rfl, hk, HN, rfl⟩ := hrel
    by_cases hlt : k < n
    · obtain ⟨x, hx⟩ : ∃ x, q[k]? = some x := ⟨_, List.getElem?_eq_getElem (by rw [Hn.out]; exact hlt)⟩
      obtain ⟨g, rfl, c1, L, hK⟩ := Hv.out k x hx
      have Hx := Lib.hid hx
      have i0 : (k : Int) < (n : Int) := by omega
      obtain ⟨z, ⟨e1, e2⟩ | ⟨e1, e2⟩ | ⟨e1, e2⟩⟩ := hK.kind
      · rw [e2] at c1
        have HN2 := Lib.hid (show ∀ (i : Nat) (y : Kon), i < k + 1 → q[i]? = some y → y.k ≠ 2 from fun i y hi hy => by
          rcases Nat.eq_or_lt_of_le (Nat.le_of_lt_succ hi) with rfl | hi
          · rw [Hx.out] at hy; simp at hy; subst hy; omega
          · exact HN.out i y hi hy)
        clear hK hx e1 e2
        have as1 := as_ar
        go_wp2
        go_roundw
        case rel => exact ⟨k + 1, by go_num, by omega, HN2, by first | rfl | trivial⟩
        case measure => simp only [intOf]; omega
      · rw [e2] at c1
        have HN2 := Lib.hid (show ∀ (i : Nat) (y : Kon), i < k + 1 → q[i]? = some y → y.k ≠ 2 from fun i y hi hy => by
          rcases Nat.eq_or_lt_of_le (Nat.le_of_lt_succ hi) with rfl | hi
          · rw [Hx.out] at hy; simp at hy; subst hy; omega
          · exact HN.out i y hi hy)
        clear hK hx e1 e2
        have as1 := as_br
        go_wp2
        go_roundw
        case rel => exact ⟨k + 1, by go_num, by omega, HN2, by first | rfl | trivial⟩
        case measure => simp only [intOf]; omega
      · rw [e2] at c1
        have hyes : (q.map (·.k)).any (· == 2) = true := List.any_eq_true.2 ⟨x.k, List.mem_map.2 ⟨x, List.mem_of_getElem? hx, rfl⟩, by rw [e1]; rfl⟩
        have Hyes := Lib.hid hyes
        clear hK hx e1 e2 hyes
        have as1 := as_rr
        go_wp2
        go_ret
        exact ⟨by rw [Hyes.out]; rfl, rfl⟩
    · obtain rfl : k = n := by omega
      have hno : (q.map (·.k)).any (· == 2) = false := List.any_eq_false.2 (fun y hy => by
        obtain ⟨x, hx, rfl⟩ := List.mem_map.1 hy
        obtain ⟨i, hi⟩ := List.getElem?_of_mem hx
        have := HN.out i x (by have := (List.getElem?_eq_some_iff.1 hi).1; rw [Hn.out] at this; exact this) hi
        simpa using this)
      have Hno := Lib.hid hno
      clear hno
      go_wp2
      go_ret
      exact ⟨by rw [Hno.out]; rfl, rfl⟩
end Go.Proofs

namespace Go.Roar
open Go.RowKit Go.Proofs
/-- A set's array as it is read: keys and containers, each container whole. -/
structure QR (w : World) (B p : Nat) (q : List Kon) : Prop where
  keys : ∃ G c, w.cell? ⟨p, 0, none⟩ = some (.slice G q.length c) ∧ ∀ (i : Nat) (x : Kon), q[i]? = some x → ∃ g, G = some ⟨g, 0, none⟩ ∧ w.cell? ⟨g, i, none⟩ = some (.int .u16 (x.key : Int)) ∧ g < B
  vals : ∃ G c, w.cell? ⟨p, 1, none⟩ = some (.slice G q.length c) ∧ ∀ (i : Nat) (x : Kon), q[i]? = some x → ∃ g, G = some ⟨g, 0, none⟩ ∧ w.cell? ⟨g, i, none⟩ = some x.v ∧ g < B
  kons : ∀ (i : Nat) (x : Kon), q[i]? = some x → ∃ L, KC x.v x.l x.k L ∧ Parts w L ∧ ∀ b ∈ foot L, b < B
  lt : p < B
theorem QR.of {w : World} {p : Nat} {t : TypeId} {vk vc vw : Value} {q : List Kon} (h : Parts w (BMP p t vk vc vw q)) {B : Nat} (hB : ∀ b ∈ foot (BMP p t vk vc vw q), b < B) : QR w B p q := by
  have hra := RA.of (Parts.left h)
  have hf : ∀ b ∈ foot (RAL p t vk vc vw (q.map (·.key)) (q.map (·.v))), b < B := fun b hb => hB b (by unfold BMP; rw [foot_append]; exact List.mem_append_left _ hb)
  have hg : ∀ b ∈ foot (KAs q), b < B := fun b hb => hB b (by unfold BMP; rw [foot_append]; exact List.mem_append_right _ hb)
  refine ⟨?_, ?_, fun i x hx => ?_, hf p (by simp [RAL, Go.Roar.B])⟩
  · obtain ⟨G, c, hv, hgg⟩ := hra.keys.sliceOf
    rw [List.length_map] at hv hgg
    refine ⟨G, c, by rw [hra.k, hv], fun i x hx => ?_⟩
    obtain ⟨g, rfl, hm⟩ := hgg (by have := (List.getElem?_eq_some_iff.1 hx).1; omega)
    have hc := hra.keys
    rw [List.length_map, hv] at hc
    exact ⟨g, rfl, (Own.cellAt hc (u16s_get (by rw [List.getElem?_map, hx]; rfl))).1, hf g (by simp only [RAL, foot_cons, O]; rw [List.mem_append, List.mem_append]; exact .inr (.inl hm))⟩
  · obtain ⟨G, c, hv, hgg⟩ := hra.conts.sliceOf
    rw [List.length_map] at hv hgg
    refine ⟨G, c, by rw [hra.c, hv], fun i x hx => ?_⟩
    obtain ⟨g, rfl, hm⟩ := hgg (by have := (List.getElem?_eq_some_iff.1 hx).1; omega)
    have hc := hra.conts
    rw [List.length_map, hv] at hc
    exact ⟨g, rfl, (Own.cellAt hc (by rw [List.getElem?_map, hx]; rfl)).1, hf g (by simp only [RAL, foot_cons, O]; rw [List.mem_append, List.mem_append, List.mem_append]; exact .inr (.inr (.inl hm)))⟩
  · obtain ⟨L, hL, hp, hF⟩ : KRepK w x.v x.l x.k x.F := (Parts.right h).all (KA x.v x.l x.k x.F) (List.mem_map.2 ⟨x, List.mem_of_getElem? hx, rfl⟩)
    refine ⟨L, hL, hp, fun b hb => hg b ?_⟩
    rw [hF] at hb
    exact List.mem_flatMap.2 ⟨KA x.v x.l x.k x.F, List.mem_map.2 ⟨x, List.mem_of_getElem? hx, rfl⟩, hb⟩
theorem QR.kept {S : Nat → Prop} {w w' : World} {B p : Nat} {q : List Kon} (h : QR w B p q) (k : Kept S w w') (hs : ∀ b, b < B → ¬ S b) : QR w' B p q := by
  obtain ⟨⟨G, c, h1, h2⟩, ⟨G', c', h3, h4⟩, h5, h6⟩ := h
  refine ⟨⟨G, c, k.cell2 (hs _ h6) h1, fun i x hx => ?_⟩, ⟨G', c', k.cell2 (hs _ h6) h3, fun i x hx => ?_⟩, fun i x hx => ?_, h6⟩
  · obtain ⟨g, e, a, b⟩ := h2 i x hx
    exact ⟨g, e, k.cell2 (hs _ b) a, b⟩
  · obtain ⟨g, e, a, b⟩ := h4 i x hx
    exact ⟨g, e, k.cell2 (hs _ b) a, b⟩
  · obtain ⟨L, a, b, d⟩ := h5 i x hx
    exact ⟨L, a, b.kept k (fun z hz => hs z (d z hz)), d⟩
theorem QR.mild {w w' : World} {B p : Nat} {q : List Kon} (h : QR w B p q) (k : Mild w w') : QR w' B p q := h.kept k (fun _ _ => id)
theorem QR.below {w w' : World} {B p : Nat} {q : List Kon} (h : QR w B p q) (k : Below B w w') : QR w' B p q := h.kept (Kept.ofBelow k) (fun b hb hn => by omega)
theorem KC.kindOf {c : Value} {l : List Nat} {k : Nat} {L : List HA} (h : KC c l k L) : k = 2 ∨ k = if l.length ≤ 4096 then 0 else 1 := by
  cases h with
  | arr _ _ _ _ _ _ hn => right; rw [if_pos hn]
  | bmp _ _ _ _ _ _ _ h0 _ => right; rw [if_neg (by omega)]
  | run => exact .inl rfl
theorem kinds_kon {w : World} {B p : Nat} {q : List Kon} (ok : OKP (psOf q)) (h : QR w B p q) : KindsOK (qsOf q) (kdOf q) := by
  refine ⟨by rw [kdOf_length, qsOf_length], fun i y k hy hk => ?_⟩
  unfold qsOf at hy
  unfold kdOf at hk
  rw [List.getElem?_map] at hy hk
  cases hx : q[i]? with
  | none => rw [hx] at hy; cases hy
  | some x =>
    rw [hx] at hy hk
    simp only [Option.map_some, Option.some.injEq] at hy hk
    subst hy hk
    obtain ⟨L, hL, _⟩ := h.kons i x hx
    show x.k = 2 ∨ x.k = if rgCard (runsOf x.l) ≤ 4096 then 0 else 1
    rw [kon_card ok (List.mem_of_getElem? hx)]
    exact hL.kindOf
/-- The bytes that a set is written as. -/
def bytesOf (q : List Kon) : List Nat := wholeOf (qsOf q) (kdOf q) (offsOf (qsOf q) (kdOf q))
theorem bytesOf_length {q : List Kon} (ok : OKP (psOf q)) : (bytesOf q).length = (headOf (kdOf q)).length + 4 * q.length + offLen (kdOf q) + (bodTo q q.length).length := by
  unfold bytesOf
  rw [whole_kon ok, List.length_append, List.length_append, List.length_append, descTo_len (Nat.le_refl _), offsOf_length]
theorem kon_len {q : List Kon} (ok : OKP (psOf q)) : q.length ≤ 65536 := by
  have := ok.length
  rwa [psOf_length] at this
theorem bod_small {q : List Kon} (ok : OKP (psOf q)) (hk : KindsOK (qsOf q) (kdOf q)) (hc : (allN (psOf q)).length ≤ 200000) : (bodTo q q.length).length ≤ 1200000 := by
  rw [bodTo_all]
  have h1 := bodies_le (qsOf q) (kdOf q) (fun y hy => ((qs_parts ok).2 y hy).2.1) hk
  rw [qs_card ok] at h1
  omega
theorem bytesOf_small {q : List Kon} (ok : OKP (psOf q)) (hk : KindsOK (qsOf q) (kdOf q)) (hc : (allN (psOf q)).length ≤ 200000) : (bytesOf q).length ≤ 10000000 := by
  have h1 := bod_small ok hk hc
  have h2 := kon_len ok
  have h3 := headOf_length (kdOf q)
  have h4 : offLen (kdOf q) ≤ 4 * (kdOf q).length := by unfold offLen; split <;> omega
  rw [bytesOf_length ok]
  rw [kdOf_length] at h3 h4
  split at h3 <;> omega
end Go.Roar
