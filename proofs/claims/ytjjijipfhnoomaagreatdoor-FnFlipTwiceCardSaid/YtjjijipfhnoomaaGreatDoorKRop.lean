/-
  roaringArray.runOptimize: each container takes the kind that takes the fewest bytes.
-/
import Derived.Test.YtjjijipfhnoomaaGreatDoorKArw
namespace Go.Proofs
open Go.RowKit Go.Roar
/-- The method toEfficientContainer of a container. -/
theorem kc_eff {c : Value} {l : List Nat} {k : Nat} {L : List HA} (h : KC c l k L) (hfew : (runsOf l).length ≤ 1000) : ∃ (tt : TypeId) (a : Addr) (fn : Nat), c = .iface tt (.pointer (some a)) ∧
    (∀ w, (nilAhead 318 tt (.pointer (some a)) "loop.example/pub-g03248/pub/roaring.toEfficientContainer").run Tryz.prog w = .ok (some false) w) ∧
    (∀ w, (method 318 tt (.pointer (some a)) "loop.example/pub-g03248/pub/roaring.toEfficientContainer").run Tryz.prog w = .ok (fn, .pointer (some a)) w) ∧
    (∀ (w : World), (callFunc fn #[.pointer (some a)]).run Tryz.prog w = .ok (.enter fn #[.pointer (some a)]) w) ∧
    ∀ (w : World), Tab w → Parts w L → Calls Tryz.prog fn #[.pointer (some a)] w fun ed w' => EffPost l (foot L) w ed w' := by
  cases h with
  | arr p v _ hs hb h0 hn => exact ⟨_, _, _, rfl, fun w => ahead_ac_toEfficientContainer _ w, fun w => method_ac_toEfficientContainer _ w, fun w => call_ac_toEff _ w, fun w _ hp => acEff_any p v l w hs hb h0 hn hp⟩
  | bmp p g c ws _ hl hb h0 hx => exact ⟨_, _, _, rfl, fun w => ahead_bc_toEfficientContainer _ w, fun w => method_bc_toEfficientContainer _ w, fun w => call_bc_toEff _ w, fun w hT hp => bcEff_any p g c ws l w hl hb h0 hx hfew hT hp⟩
  | run p v rs _ hr h0 hx => exact ⟨_, _, _, rfl, fun w => ahead_rc_toEfficientContainer _ w, fun w => method_rc_toEfficientContainer _ w, fun w => call_rc_toEff _ w, fun w _ hp => by
      rw [← hx]; exact rcEff_any p v rs w hr h0 (by rw [← hx, runsOf_back hr] at hfew; exact hfew) hp⟩
end Go.Proofs
namespace Go.Roar
open Go.RowKit Go.Proofs
/-- Where runOptimize stands: the first k containers have the kind that takes the fewest bytes. -/
structure OPS (w0 : World) (F : List Nat) (p : Nat) (t : TypeId) (vk vc vw : Value) (ps : List (Nat × List Nat)) (wr : World) (k : Nat) (q : List Kon) : Prop where
  ss : SS w0 F wr (BMP p t vk vc vw q)
  ps : psOf q = ps
  kinds : ∀ (i : Nat) (x : Kon), i < k → q[i]? = some x → x.k = kindOf x.l
theorem OPS.step {w0 w2 wr : World} {F : List Nat} {p : Nat} {t : TypeId} {vk vc vw : Value} {ps : List (Nat × List Nat)} {k : Nat} {q : List Kon} {x y : Kon} (o : OPS w0 F p t vk vc vw ps wr k q) (hx : q[k]? = some x) (hk : y.key = x.key) (hl : y.l = x.l) (hy : y.k = kindOf y.l)
    (hS : SS w0 F w2 (BMP p t vk vc vw (q.set k y))) : OPS w0 F p t vk vc vw ps w2 (k + 1) (q.set k y) := by
  refine ⟨hS, ?_, fun i z hi hz => ?_⟩
  · rw [psOf_set, ← o.ps, hk, hl]
    apply List.ext_getElem?
    intro j
    by_cases hj : j = k
    · subst hj
      have := psOf_at hx
      rw [List.getElem?_set_self ((List.getElem?_eq_some_iff.1 this).1), this]
    · rw [List.getElem?_set_ne (by omega)]
  · by_cases hik : i = k
    · subst hik
      rw [List.getElem?_set_self ((List.getElem?_eq_some_iff.1 hx).1)] at hz
      simp at hz; subst hz; exact hy
    · rw [List.getElem?_set_ne (by omega)] at hz
      exact o.kinds i z (by omega) hz
/-- A container's value is written. -/
theorem ral_store {w : World} {p : Nat} {t : TypeId} {vk vw : Value} {g n c : Nat} {ks : List Nat} {cs : List Value} (hn : n = ks.length) (h : Parts w (RAL p t vk (.slice (some ⟨g, 0, none⟩) n c) vw ks cs)) (i : Nat) (hi : i < n) (v : Value) :
    SS w (foot (RAL p t vk (.slice (some ⟨g, 0, none⟩) n c) vw ks cs)) (w.setCell ⟨g, i, none⟩ v) (RAL p t vk (.slice (some ⟨g, 0, none⟩) n c) vw ks (cs.set i v)) := by
  subst hn
  have hl : cs.length = ks.length := by
    have ho : Own w 1 68 (.slice (some ⟨g, 0, none⟩) ks.length c) ks.length cs := h.all (O 1 68 (.slice (some ⟨g, 0, none⟩) ks.length c) ks.length cs) (by simp [RAL])
    have := ho.len
    omega
  exact SS.storeO (L := [B p t [vk, .slice (some ⟨g, 0, none⟩) ks.length c, vw, .bool false], O 1 57 vk ks.length (u16s ks)]) (R := [O 1 4 vw ks.length (List.replicate ks.length (.bool false))]) (SS.init h) i (by omega) v
end Go.Roar
namespace Go.Proofs
open Go.RowKit Go.Roar

set_option maxRecDepth 100000 in
set_option maxHeartbeats 4000000 in
theorem raOpt_any (p : Nat) (t : TypeId) (vk vc vw : Value) (q : List Kon) (w : World) (ok : OKP (psOf q)) (few : FewRuns (psOf q) 1000) (hT : Tab w) (h : Parts w (BMP p t vk vc vw q)) (hTF : 0 ∉ foot (BMP p t vk vc vw q)) :
    Calls Tryz.prog 42 #[.pointer (some ⟨p, 0, none⟩)] w fun ed w' => ed = .returned (.tuple #[]) ∧ ∃ q', SS w (foot (BMP p t vk vc vw q)) w' (BMP p t vk vc vw q') ∧ psOf q' = psOf q ∧ ∀ x ∈ q', x.k = kindOf x.l := by
  have HA0 : Hid (OPS w (foot (BMP p t vk vc vw q)) p t vk vc vw (psOf q) w 0 q) := Lib.hid ⟨SS.init h, rfl, fun i x hi => by omega⟩
  have hql := ok.length
  rw [psOf_length] at hql
  have HT := Lib.hid (fun (W : World) (k : Kept (· ∈ foot (BMP p t vk vc vw q)) w W) => show Tab W from fun i hi => k.cell2 hTF (hT i hi))
  generalize foot (BMP p t vk vc vw q) = F at *
  have hra := RA.of (Parts.left h)
  obtain ⟨G, c, hv, hg⟩ := hra.conts.sliceOf
  have c1 := hra.c
  rw [hv] at c1
  have hcs := hra.conts.len
  rw [List.length_map, List.length_map] at *
  have hg2 : 0 < q.length → ∃ g, G = some ⟨g, 0, none⟩ := fun h => by
    obtain ⟨g, e, _⟩ := hg h
    exact ⟨g, e⟩
  have Hok := Lib.hid ok
  have Hfew := Lib.hid few
  generalize hps : psOf q = ps at *
  have hlen : ps.length = q.length := by rw [← hps, psOf_length]
  generalize hn : q.length = n at *
  have Hlen := Lib.hid hlen
  clear hn ok few h hra hg hcs hlen hT hTF hps
  subst hv
  go_enter Tryz.func42, Tryz.ntmps42
  go_wp2
  go_loopw [8] (fun i wr => ∃ (k : Nat) (q : List Kon), i = .int .i64 (k : Int) ∧ k ≤ n ∧ Hid (OPS w F p t vk (.slice G n c) vw ps wr k q)) (fun i _ => n - (intOf i).toNat)
  case atStart => exact ⟨0, q, rfl, Nat.zero_le _, HA0⟩
  case round =>
    clear HA0
    obtain ⟨k, q, rfl, hk, HO⟩ := hrel
    have hqn : q.length = n := by rw [← psOf_length, HO.out.ps, Hlen.out]
    by_cases hlt : k < n
    · obtain ⟨x, hx⟩ : ∃ x, q[k]? = some x := ⟨_, List.getElem?_eq_getElem (by omega)⟩
      obtain ⟨g, rfl⟩ := hg2 (by omega)
      obtain ⟨L, hK, hS⟩ := bmp_open HO.out.ss hx
      have hfx : (runsOf x.l).length ≤ 1000 := by
        have := Hfew.out (x.key, x.l) (by rw [← HO.out.ps]; exact List.mem_of_getElem? (psOf_at hx))
        exact this
      obtain ⟨tt, ad, fn, hv, n1, n2, n3, hAD⟩ := kc_eff hK hfx
      have HAD := Lib.hid (hAD wr.drew (HT.out _ hS.drew.kept) hS.drew.left.sep)
      have HS := Lib.hid hS.drew
      have hra := RA.of (Parts.left HO.out.ss.sep)
      have a0 := hra.c
      have a1 := (Own.cellAt (o := k) (v := x.v) (by have := hra.conts; rw [List.length_map, hqn] at this; exact this) (by rw [List.getElem?_map, hx]; rfl))
      rw [hv] at a1
      obtain ⟨a1, -⟩ := a1
      have Hx := Lib.hid hx
      have Hq := Lib.hid hqn
      clear hra hAD hS hK hx hqn hfx hv
      have i1 : (k : Int) < (n : Int) := by omega
      go_upto_region 3 with fail
      go_region_with (first
        | ((with_reducible refine HAD.out.mono ?_); rintro ed w4 ⟨t4, v4, L4, rfl, hK4, hS4⟩; have HK4 := Lib.hid hK4; have S4 := Lib.hid (HS.out.frame hS4); have P4 := Lib.hid (S4.out.right.left.sep); have R4 := RA.of P4.out; have b0 := R4.c; obtain ⟨b1, b2⟩ := Own.cellAt (o := k) (v := x.v) (by have := R4.conts; rw [List.length_map, Hq.out] at this; exact this) (by rw [List.getElem?_map, Hx.out]; rfl); clear hK4 hS4 R4)
        | fail)
      all_goals
        go_wp2
        go_roundw
        case rel =>
          have hSt := ral_store (by rw [List.length_map, Hq.out]) P4.out k (by omega) (.iface t4 v4)
          have hB := bmp_shut (y := ⟨x.key, .iface t4 v4, x.l, kindOf x.l, foot L4⟩) Hx.out rfl rfl HK4.out S4.out hSt
          exact ⟨k + 1, _, by go_num, by omega, Lib.hid (HO.out.step (y := ⟨x.key, .iface t4 v4, x.l, kindOf x.l, foot L4⟩) Hx.out rfl rfl rfl hB)⟩
        case measure => simp only [intOf]; omega
    · obtain rfl : k = n := by omega
      go_wp2
      go_end0
      refine ⟨rfl, q, HO.out.ss, HO.out.ps, fun x hx => ?_⟩
      obtain ⟨i, hi⟩ := List.getElem?_of_mem hx
      exact HO.out.kinds i x (by have := (List.getElem?_eq_some_iff.1 hi).1; omega) hi
end Go.Proofs
