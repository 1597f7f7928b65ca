/-
  laws.FnFlipTwice returns true for every input, and each argument reads behind the call as it read before: the row. Condition: the library's table math/bits.deBruijn64tab reads as its initialiser lays it (the row's cell 'laid').
-/
import Derived.Test.YtjjijipfhnoomaaGreatDoorJFtL
namespace Go.Proofs.YtjjijipfhnoomaaGreatDoor.fnFlipTwice
open Go.ChangeShapes Go.WideShapes Go.ChangeAt Go.RowKit Go.Roar Go.Proofs Go.Deep
set_option linter.unusedVariables false
theorem cells42 : Tryz.prog.cellsOf 43 = 2 := by kernel_rfl
theorem cells40 : Tryz.prog.cellsOf 34 = 1 := by kernel_rfl

/-- Spans that came in, as ranges. -/
theorem spans_of {H : Type} {enc : TypeId × Value → H} {W : World} {fuel : Nat} {v : Value} {x : DataW H × List MemPlace} (hv : v.cells = #[v] ∨ True)
    (h : DataW.trod enc Tryz.prog W 0 (fun _ => true) true fuel 22 [v] = some x) :
    ∃ rs, SG W v rs ∧ ∀ r ∈ rs, r.1 < 4294967296 ∧ r.2 < 4294967296 := by
  rcases open_slice_pairs Tryz.underlying22 Tryz.underlying43 cells42 rfl rfl cells40 cells40 h with ⟨hc, hx⟩ | ⟨a, len, cap, m, k, V0, V1, D0, D1, P0, P1, hc, _, hl, hm, hmm, hx, hall⟩
  · simp only [List.cons.injEq, and_true] at hc
    subst hc
    exact ⟨[], ⟨none, 0, rfl, by simp⟩, by simp⟩
  · simp only [List.cons.injEq, and_true] at hc
    subst hc
    simp only [if_true] at hmm
    subst hmm
    obtain ⟨f, hf⟩ := choose_lt (α := Nat × Nat) (n := len) (p := fun i r => V0 i = .int .u32 (r.1 : Int) ∧ V1 i = .int .u32 (r.2 : Int) ∧ r.1 < 4294967296 ∧ r.2 < 4294967296) (fun i hi => by
      obtain ⟨_, _, t0, t1⟩ := hall i (by omega)
      obtain ⟨k0, e0, _, w0⟩ := DataW.trod_int Tryz.underlying34 t0
      obtain ⟨k1, e1, _, w1⟩ := DataW.trod_int Tryz.underlying34 t1
      have b0 := bounds_u32 w0
      have b1 := bounds_u32 w1
      refine ⟨(k0.toNat, k1.toNat), ?_, ?_, ?_, ?_⟩
      · simp only [List.cons.injEq, and_true] at e0
        rw [e0]; congr 1; omega
      · simp only [List.cons.injEq, and_true] at e1
        rw [e1]; congr 1; omega
      · show k0.toNat < _; omega
      · show k1.toNat < _; omega)
    refine ⟨(List.range len).map f, ⟨some a, m, by simp, fun i r hr => ?_⟩, fun r hr => ?_⟩
    · rw [List.getElem?_map] at hr
      by_cases hi : i < len
      · rw [List.getElem?_range hi] at hr
        simp only [Option.map_some, Option.some.injEq] at hr
        subst hr
        obtain ⟨c0, c1, _, _⟩ := hall i (by omega)
        obtain ⟨e0, e1, _, _⟩ := hf i hi
        exact ⟨a, rfl, by rw [c0, e0], by rw [c1, e1]⟩
      · rw [List.getElem?_eq_none (by simp; omega)] at hr
        cases hr
    · obtain ⟨i, hi, rfl⟩ := List.mem_map.1 hr
      exact (hf i (by simpa using hi)).2.2

set_option maxRecDepth 100000 in
theorem lifted (os : Os) (started : os.Started) (H : Type) (enc : TypeId × Value → H) :
    ReturnsInHanded {} Tryz.checked os 4 .any (fun w args => (Rows.fnFlipTwiceSpec.pre enc Tryz.prog Tryz.f4 [] false w args ∧ laidMetH Tryz.prog tabList w) ∧ sizedMet enc Tryz.prog Tryz.f4 (OpenSpec.ofChange Rows.fnFlipTwiceSpec) false w args)
      (Rows.fnFlipTwiceSpec.post enc Tryz.prog Tryz.f4 false true false false) := by
  refine returnsInHanded_of_change_and (C := Tryz.checked) (X := fun w _ => laidMetH Tryz.prog tabList w) (fun _ _ _ hh h => h.of_heap hh) own started (by kernel_rfl) Tryz.func4
    (ChangeSpec.witness_shaped (enc := enc) (C := Tryz.checked) (os := os) (X := fun w _ => laidMetH Tryz.prog tabList w) false (World.doorLaid Tryz.prog 14 os) #[.slice none 0 0, .int .u64 0, .int .u64 0, .int .u8 0] 8 rfl (World.shaped_of_RefB (by kernel_rfl) (by kernel_rfl)) (by kernel_rfl) (by kernel_rfl) (by kernel_rfl) (door_met os _)) ?_
  intro W base args ds gs before hval0 hW _ _ hL _
  have hval : ∀ (j : Nat) t v, Tryz.f4.params[j]? = some t → args[j]? = some v → Value.okWide Tryz.prog W .any base t v := hval0
  have hW' := hW
  obtain ⟨p, q, hA0, hV, rfl, hfz, hnd⟩ := hW
  have hA : DataW.TrodAll enc Tryz.prog W 0 (fun _ => true) true Tryz.f4.params.toList args.toList ds p := hA0
  rw [Tryz.params4] at hA hval
  obtain ⟨v0, vs0, d0, ds0, p0, q0, hargs, rfl, rfl, h0, r0⟩ := trodAll_cons hA
  obtain ⟨v1, vs1, d1, ds1, p1, q1, rfl, rfl, rfl, h1, r1⟩ := trodAll_cons r0
  obtain ⟨v2, vs2, d2, ds2, p2, q2, rfl, rfl, rfl, h2, r2⟩ := trodAll_cons r1
  obtain ⟨v3, vs3, d3, ds3, p3, q3, rfl, rfl, rfl, h3, r3⟩ := trodAll_cons r2
  obtain ⟨rfl, rfl, rfl⟩ := trodAll_nil r3
  obtain rfl : args = #[v0, v1, v2, v3] := by cases args; simp_all
  obtain ⟨rfl, rfl⟩ := trodVars_none hV
  have k0 := h0
  have lt0 : ∀ x ∈ p0, x.block < W.heap.size := by obtain ⟨m, hm⟩ := k0; exact DataW.trod_lt m _ _ _ hm
  have k1 := h1
  have lt1 : ∀ x ∈ p1, x.block < W.heap.size := by obtain ⟨m, hm⟩ := k1; exact DataW.trod_lt m _ _ _ hm
  have k2 := h2
  have lt2 : ∀ x ∈ p2, x.block < W.heap.size := by obtain ⟨m, hm⟩ := k2; exact DataW.trod_lt m _ _ _ hm
  have k3 := h3
  have lt3 : ∀ x ∈ p3, x.block < W.heap.size := by obtain ⟨m, hm⟩ := k3; exact DataW.trod_lt m _ _ _ hm
  obtain ⟨a0, len0, cap0, rfl⟩ := okWide_slice Tryz.underlying22 (hval 0 22 v0 rfl rfl)
  obtain ⟨rs0, hrs0, hrb0⟩ : ∃ rs, SG W (.slice a0 len0 cap0) rs ∧ ∀ r ∈ rs, r.1 < 4294967296 ∧ r.2 < 4294967296 := by
    obtain ⟨fuel, hf⟩ := h0
    exact spans_of (.inr trivial) hf
  obtain ⟨y1, e1, hy1⟩ : ∃ y : Nat, v1 = .int .u64 (y : Int) ∧ y < 18446744073709551616 := by
    obtain ⟨k, e, _, _, w⟩ := open_int Tryz.underlying23 (hval 1 23 v1 rfl rfl) h1
    have b := bounds_u64 w
    exact ⟨k.toNat, by rw [e]; congr 1; omega, by omega⟩
  subst e1
  obtain ⟨y2, e2, hy2⟩ : ∃ y : Nat, v2 = .int .u64 (y : Int) ∧ y < 18446744073709551616 := by
    obtain ⟨k, e, _, _, w⟩ := open_int Tryz.underlying23 (hval 2 23 v2 rfl rfl) h2
    have b := bounds_u64 w
    exact ⟨k.toNat, by rw [e]; congr 1; omega, by omega⟩
  subst e2
  obtain ⟨y3, e3, hy3⟩ : ∃ y : Nat, v3 = .int .u8 (y : Int) ∧ y < 256 := by
    obtain ⟨k, e, _, _, w⟩ := open_int Tryz.underlying5 (hval 3 5 v3 rfl rfl) h3
    have b := bounds_u8 w
    exact ⟨k.toNat, by rw [e]; congr 1; omega, by omega⟩
  subst e3
  obtain ⟨hT, hTs⟩ := of_laid hL
  clear hA0 hval0
  refine (lawFt_any _ rs0 y1 y2 y3 W hrs0 hrb0 hy1 hy2 hy3 hT hTs).mono fun e W' ⟨he, hk⟩ => ?_
  subst he
  have bel : Below W.heap.size W W' := ⟨hk.os, hk.tape, hk.output, hk.size, fun k hk' => hk.block k hk' id⟩
  exact ⟨_, rfl, _, _, _, [], _, [], hW', trodAll_mk1 (shut_bool Tryz.underlying4 _), (trodAll_cons_mk (Below.trod laidOut (by kernel_rfl) (of_decide_eq_true (by kernel_rfl)) k0 bel lt0) (trodAll_cons_mk (Below.trod laidOut (by kernel_rfl) (of_decide_eq_true (by kernel_rfl)) k1 bel lt1) (trodAll_cons_mk (Below.trod laidOut (by kernel_rfl) (of_decide_eq_true (by kernel_rfl)) k2 bel lt2) (trodAll_cons_mk (Below.trod laidOut (by kernel_rfl) (of_decide_eq_true (by kernel_rfl)) k3 bel lt3) trodAll_mk0)))), rfl, bel.frame _, fun h => by cases h⟩

theorem over : Rows.fnFlipTwiceRow.holds Tryz.pinned (OpenSpec.ofChange Rows.fnFlipTwiceSpec) :=
  OpenClaim.holds_of_wide 4 Tryz.f4 rfl rfl rfl rfl rfl rfl rfl ⟨rfl, rfl, rfl, rfl, rfl⟩ rfl rfl rfl rfl rfl (by kernel_rfl) Tryz.func4 (by kernel_rfl)
    (of_decide_eq_true (by kernel_rfl)) (by unfold Func.isWrapper; first | (rw [if_pos (by decide +kernel)]; kernel_rfl) | (rw [if_neg (by decide +kernel)]; exact ⟨rfl, rfl⟩))
    (fun os started H enc _ => lifted os started H enc)
theorem proved : Rows.FnFlipTwiceSaid := over
#print axioms proved
end Go.Proofs.YtjjijipfhnoomaaGreatDoor.fnFlipTwice
