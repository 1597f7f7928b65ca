/-
  The bytes of the format are read as the parts that they tell.
  What is read of the format's bytes, whatever they are read from.
  The bytes of the format are read (A) as the parts that they tell.
-/
import Derived.Test.YtanmgknadeoffaaGreatDoorJFm
import Derived.Test.YtanmgknadeoffaaGreatDoorKOfa
import Derived.Test.YtanmgknadeoffaaGreatDoorKRzA
namespace Go.Roar
open Go.RowKit Go.Proofs

theorem u16s_cell {w : World} {g : Nat} {t : TypeId} {l : List Nat} (h : Blk w g t (u16s l)) (i x : Nat) (hx : l[i]? = some x) : w.cell? ⟨g, i, none⟩ = some (.int .u16 (x : Int)) := (h.cell i).trans (u16s_get hx)
/-- A container that has been read tells the numbers of its ranges, and how many they are. -/
theorem CRep.con {w : World} {H : Nat} {v : Value} {k : Nat} {rs : List (Nat × Nat)} (h : CRep w H v k (rgCard rs - 1 + 1) (bodyOf rs k)) (hr : RgOK 65536 rs) (h0 : rs ≠ []) : Con w w.heap.size v (rgNums rs) ∧ ConC w w.heap.size v (rgNums rs).length := by
  obtain ⟨q, g, m, _, _, h⟩ := h
  have hc := rgCard_le rs 0 hr (fun _ _ => Nat.zero_le _) (Nat.zero_le _)
  have hl := rg_length rs 0 hr (fun _ _ => Nat.zero_le _) (by omega)
  have hc0 : 1 ≤ rgCard rs := by
    rcases rs with _ | ⟨r, l⟩
    · exact absurd rfl h0
    · rw [rgCard_cons]; omega
  have hbl := bodyOf_length rs k
  rw [rgNums_length]
  rcases h with ⟨rfl, rfl, bq, hm, bg⟩ | ⟨rfl, rfl, bq, hm, bg⟩ | ⟨rfl, rfl, bq, hm, bg⟩
  · have zq := bq.lt
    have zg := bg.lt
    rw [if_pos rfl, hm] at hbl
    have e : decK 2 (bodyOf rs 0) = rgNums rs := by unfold bodyOf; rw [if_pos rfl, dec16_enc]
    rw [e] at bg
    exact ⟨.inl ⟨q, g, m, m, rfl, zq, zg, bq.cell 0, by rw [rgNums_length]; omega, by omega, fun i x hx => u16s_cell bg i x hx⟩, .inl ⟨q, m, m, _, rfl, zq, bq.cell 0, by omega⟩⟩
  · have zq := bq.lt
    have zg := bg.lt
    rw [if_neg (by decide), if_pos rfl, hm] at hbl
    obtain rfl : m = 1024 := by omega
    have e : bodyOf rs 1 = bitBytes (rgNums rs) := by unfold bodyOf; rw [if_neg (by decide), if_pos rfl]
    rw [e] at bg hm
    have hlen : (decK 8 (bitBytes (rgNums rs))).length = 1024 := by simp [decK, hm]
    refine ⟨.inr (.inr ⟨q, g, 1024, decK 8 (bitBytes (rgNums rs)), rfl, zq, zg, hlen, ?_, bq.cell 1, ⟨by simp [hlen], .inr ⟨g, 0, [], rfl, rfl, by unfold maxLen; omega, by rw [List.append_nil]; exact bg⟩⟩, ?_⟩), .inr (.inr ⟨q, rfl, zq, ?_⟩)⟩
    · intro x hx
      exact decK_lt (bitBytes_byte _) x hx
    · rw [bits_back (rgNums_rising hr) (rgNums_lt hr)]
    · rw [Nat.sub_add_cancel hc0] at bq; exact bq.cell 0
  · have zq := bq.lt
    have zg := bg.lt
    rw [if_neg (by decide), if_neg (by decide), hm] at hbl
    obtain rfl : m = rs.length := by omega
    have e : decK 2 ((bodyOf rs 2).drop 2) = runNums rs := by
      unfold bodyOf; rw [if_neg (by decide), if_neg (by decide)]
      show decK 2 ((runNums rs).flatMap enc16) = runNums rs
      exact dec16_enc _
    rw [e] at bg
    have hcells : ∀ (i : Nat) (r : Nat × Nat), (rs.map fun r => (r.1, r.2 - r.1))[i]? = some r → w.cell? ⟨g, i * 2, none⟩ = some (.int .u16 (r.1 : Int)) ∧ w.cell? ⟨g, i * 2 + 1, none⟩ = some (.int .u16 (r.2 : Int)) := by
      intro i r hx
      rw [List.getElem?_map, Option.map_eq_some_iff] at hx
      obtain ⟨y, hy, rfl⟩ := hx
      exact ⟨u16s_cell bg _ _ (runNums_at hy).1, u16s_cell bg _ _ (runNums_at hy).2⟩
    have hbd : ∀ r ∈ rs.map (fun r => (r.1, r.2 - r.1)), r.1 + r.2 < 65536 := by
      intro r hx
      rw [List.mem_map] at hx
      obtain ⟨y, hy, rfl⟩ := hx
      have := hr.1 y hy
      dsimp only; omega
    have hok : RgOK 65536 ((rs.map fun r => (r.1, r.2 - r.1)).map fun r => (r.1, r.1 + r.2)) := by
      rw [List.map_map]
      have e : rs.map ((fun r : Nat × Nat => (r.1, r.1 + r.2)) ∘ fun r : Nat × Nat => (r.1, r.2 - r.1)) = rs := by
        conv => rhs; rw [← List.map_id rs]
        refine List.map_congr_left (fun r hx => ?_)
        have := (hr.1 r hx).1
        show (r.1, r.1 + (r.2 - r.1)) = r
        rw [Nat.add_sub_cancel' this]
      rw [e]; exact hr
    have hn : ivNums (rs.map fun r => (r.1, r.2 - r.1)) = rgNums rs := by
      unfold ivNums rgNums; rw [List.flatMap_map]
    refine ⟨.inr (.inl ⟨q, g, rs.length, rs.length, rs.map fun r => (r.1, r.2 - r.1), rfl, zq, zg, bq.cell 0, by simp, by omega, hbd, hcells, hok, hn.symm⟩), .inr (.inl ⟨q, g, rs.length, rs.length, rs.map fun r => (r.1, r.2 - r.1), rfl, zq, zg, bq.cell 0, by simp, fun r hx => by have := hbd r hx; omega, hcells, ?_⟩)⟩
    rw [← ivNums_length, hn, rgNums_length]

theorem bytes4 {bs : List Nat} {o a b c d : Nat} {t : List Nat} (h : bs.drop o = a :: b :: c :: d :: t) : bs[o]? = some a ∧ bs[o + 1]? = some b ∧ bs[o + 2]? = some c ∧ bs[o + 3]? = some d := by
  refine ⟨?_, ?_, ?_, ?_⟩
  · have := congrArg (fun l => l[0]?) h; simpa [List.getElem?_drop] using this
  · have := congrArg (fun l => l[1]?) h; simpa [List.getElem?_drop] using this
  · have := congrArg (fun l => l[2]?) h; simpa [List.getElem?_drop] using this
  · have := congrArg (fun l => l[3]?) h; simpa [List.getElem?_drop] using this

theorem rising_len : ∀ (l : List Nat) (lo n : Nat), l.Pairwise (· < ·) → (∀ x ∈ l, lo ≤ x ∧ x < n) → lo ≤ n → l.length + lo ≤ n
  | [], lo, n, _, _, h => by simpa using h
  | x :: l, lo, n, hp, hb, h => by
    obtain ⟨h1, h2⟩ := List.pairwise_cons.1 hp
    have hx := hb x (by simp)
    have := rising_len l (x + 1) n h2 (fun y hy => ⟨h1 y hy, (hb y (List.mem_cons_of_mem _ hy)).2⟩) (by omega)
    simp only [List.length_cons]; omega

theorem wholeOf_byte {qs : List (Nat × List (Nat × Nat))} {kd offs : List Nat} (hq : ∀ q ∈ qs, q.1 < 65536 ∧ q.2 ≠ [] ∧ RgOK 65536 q.2) (hk : KindsOK qs kd) (hn : qs.length ≤ 65536) (ho : ∀ b ∈ offs, b < 256) : ∀ b ∈ wholeOf qs kd offs, b < 256 := by
  have hkl := hk.1
  intro b hb
  unfold wholeOf at hb
  rcases List.mem_append.1 hb with hb | hb
  · rcases List.mem_append.1 hb with hb | hb
    · rcases List.mem_append.1 hb with hb | hb
      · unfold headOf at hb
        split at hb
        · rcases List.mem_append.1 hb with hb | hb
          · exact enc32_byte (by omega) b hb
          · exact flagsOf_byte kd b hb
        · rcases List.mem_append.1 hb with hb | hb
          · exact enc32_byte (by omega) b hb
          · exact enc32_byte (by omega) b hb
      · refine flatMap_byte ?_ b hb
        intro x hx
        obtain ⟨q, hq', hx⟩ := List.mem_flatMap.1 hx
        obtain ⟨h1, h2, h3⟩ := hq q hq'
        have hc := rgCard_le q.2 0 h3 (fun _ _ => Nat.zero_le _) (Nat.zero_le _)
        have hc0 : 1 ≤ rgCard q.2 := by
          rcases hq2 : q.2 with _ | ⟨r, l⟩
          · exact absurd hq2 h2
          · rw [rgCard_cons]; omega
        simp at hx
        omega
    · exact ho b hb
  · obtain ⟨l, hl, hb⟩ := List.mem_flatten.1 hb
    unfold bodiesOf at hl
    rw [List.mem_map] at hl
    obtain ⟨x, hx, rfl⟩ := hl
    exact bodyOf_byte (hq x.1 (List.of_mem_zip hx).1).2.2 _ b hb
end Go.Roar

namespace Go.Roar
open Go.RowKit Go.Proofs

theorem parts_len {qs : List (Nat × List (Nat × Nat))} (h : PartsOK qs) : qs.length ≤ 65536 := by
  have := rising_len (qs.map (·.1)) 0 65536 (by rw [List.pairwise_map]; exact h.1) (by intro x hx; rw [List.mem_map] at hx; obtain ⟨q, hq, rfl⟩ := hx; exact ⟨Nat.zero_le _, (h.2 q hq).1⟩) (Nat.zero_le _)
  simpa using this

theorem loaded_of {w : World} {H p gk gc gw : Nat} {tp : TypeId} {qs : List (Nat × List (Nat × Nat))} {kd : List Nat} {cvs : List Value} (hq : PartsOK qs) (hk : KindsOK qs kd)
    (b1 : Blk w p tp [.slice (some ⟨gk, 0, none⟩) qs.length qs.length, .slice (some ⟨gc, 0, none⟩) qs.length qs.length, .slice (some ⟨gw, 0, none⟩) qs.length qs.length, .bool false])
    (b2 : Blk w gk 44 (u16s (qs.map (·.1)))) (b3 : Blk w gc 83 cvs) (hl : cvs.length = qs.length)
    (hc : ∀ (i card1 kind : Nat) (c : Value) (body : List Nat), cvs[i]? = some c → (qs.map fun q => rgCard q.2 - 1)[i]? = some card1 → kd[i]? = some kind → (bodiesOf qs kd)[i]? = some body → CRep w H c kind (card1 + 1) body)
    (hT : Tab w) (hTs : 1 < w.heap.size) : Loaded w p (qs.map fun q => (q.1, rgNums q.2)) := by
  have hlen : (qs.map fun q => (q.1, rgNums q.2)).length = qs.length := by simp
  have each : ∀ (i : Nat) (x : Nat × List Nat), (qs.map fun q => (q.1, rgNums q.2))[i]? = some x → ∃ v, (qs.map (·.1))[i]? = some x.1 ∧ cvs[i]? = some v ∧ Con w w.heap.size v x.2 ∧ ConC w w.heap.size v x.2.length := by
    intro i x hx
    rw [List.getElem?_map, Option.map_eq_some_iff] at hx
    obtain ⟨q, hx, rfl⟩ := hx
    have hi := (List.getElem?_eq_some_iff.1 hx).1
    obtain ⟨k, hk'⟩ : ∃ k, kd[i]? = some k := ⟨_, List.getElem?_eq_getElem (by rw [hk.1]; exact hi)⟩
    obtain ⟨v, hv⟩ : ∃ v, cvs[i]? = some v := ⟨_, List.getElem?_eq_getElem (by rw [hl]; exact hi)⟩
    have hr := hc i _ k v _ hv (by rw [List.getElem?_map, hx]; rfl) hk' (bodiesOf_at hx hk')
    have hcon := hr.con (hq.2 q (List.mem_of_getElem? hx)).2.2 (hq.2 q (List.mem_of_getElem? hx)).2.1
    exact ⟨v, by rw [List.getElem?_map, hx]; rfl, hv, hcon.1, hcon.2⟩
  constructor
  · exact {
      h0 := ⟨_, _, by rw [hlen]; exact b1.cell 0⟩
      hp := b1.lt
      len := by rw [hlen]; exact parts_len hq
      tab := hT
      tabH := hTs
      full := by
        intro x hx
        rw [List.mem_map] at hx
        obtain ⟨q, hq', rfl⟩ := hx
        obtain ⟨h1, h2, h3⟩ := hq.2 q hq'
        refine ⟨h1, ?_, fun y hy => rgNums_lt h3 y hy⟩
        dsimp only
        rcases hq2 : q.2 with _ | ⟨r, l⟩
        · exact absurd hq2 h2
        · rw [rgNums_cons, List.range'_succ]; simp
      part := by
        intro i x hx
        obtain ⟨v, e1, e2, e3, _⟩ := each i x hx
        rw [hlen]
        exact ⟨gk, _, gc, _, v, b1.cell 0, b1.cell 1, b2.lt, b3.lt, u16s_cell b2 i _ e1, (b3.cell i).trans e2, e3⟩ }
  · refine ⟨some ⟨gc, 0, none⟩, qs.length, by rw [hlen]; exact b1.cell 1, ?_⟩
    intro i x hx
    obtain ⟨v, e1, e2, _, e4⟩ := each i x hx
    exact ⟨gc, v, rfl, (b3.cell i).trans e2, e4⟩

theorem fmt_zero {kd offs : List Nat} (hk : KindsOK [] kd) (ho : offs.length = offLen kd) :
    (∃ b0 b1 b2 b3, (wholeOf [] kd offs)[0]? = some b0 ∧ (wholeOf [] kd offs)[0 + 1]? = some b1 ∧ (wholeOf [] kd offs)[0 + 2]? = some b2 ∧ (wholeOf [] kd offs)[0 + 3]? = some b3 ∧ leN [b0, b1, b2, b3] = 12346) ∧
    (∃ b0 b1 b2 b3, (wholeOf [] kd offs)[4]? = some b0 ∧ (wholeOf [] kd offs)[4 + 1]? = some b1 ∧ (wholeOf [] kd offs)[4 + 2]? = some b2 ∧ (wholeOf [] kd offs)[4 + 3]? = some b3 ∧ leN [b0, b1, b2, b3] = 0) ∧ (wholeOf [] kd offs).length = 8 := by
  obtain rfl : kd = [] := List.eq_nil_of_length_eq_zero hk.1
  have : offs.length = 0 := ho
  obtain rfl : offs = [] := List.eq_nil_of_length_eq_zero this
  exact ⟨⟨_, _, _, _, rfl, rfl, rfl, rfl, rfl⟩, ⟨_, _, _, _, rfl, rfl, rfl, rfl, rfl⟩, rfl⟩

theorem fmt_facts {qs : List (Nat × List (Nat × Nat))} {kd offs : List Nat} (hk : KindsOK qs kd) (ho : offs.length = offLen kd) (h0 : 0 < qs.length) :
    (∃ b0 b1 b2 b3, (wholeOf qs kd offs)[0]? = some b0 ∧ (wholeOf qs kd offs)[0 + 1]? = some b1 ∧ (wholeOf qs kd offs)[0 + 2]? = some b2 ∧ (wholeOf qs kd offs)[0 + 3]? = some b3 ∧ leN [b0, b1, b2, b3] = if anyRuns kd then 12347 + (kd.length - 1) * 65536 else 12346) ∧
    4 ≤ (wholeOf qs kd offs).length ∧
    (((if anyRuns kd then some (flagsOf kd) else none) = none ∧ (if anyRuns kd then 12347 + (kd.length - 1) * 65536 else 12346) = 12346 ∧ (headOf kd).length = 8 ∧ ∃ b0 b1 b2 b3, (wholeOf qs kd offs)[4]? = some b0 ∧ (wholeOf qs kd offs)[4 + 1]? = some b1 ∧ (wholeOf qs kd offs)[4 + 2]? = some b2 ∧ (wholeOf qs kd offs)[4 + 3]? = some b3 ∧ leN [b0, b1, b2, b3] = qs.length) ∨
      ((if anyRuns kd then some (flagsOf kd) else none) = some (((wholeOf qs kd offs).drop 4).take ((qs.length + 7) / 8)) ∧ (if anyRuns kd then 12347 + (kd.length - 1) * 65536 else 12346) % 65536 = 12347 ∧ (if anyRuns kd then 12347 + (kd.length - 1) * 65536 else 12346) / 65536 + 1 = qs.length ∧ (headOf kd).length = 4 + (qs.length + 7) / 8)) ∧
    (headOf kd).length + 4 * qs.length ≤ (wholeOf qs kd offs).length ∧
    (descNums qs).flatMap enc16 = ((wholeOf qs kd offs).drop (headOf kd).length).take (4 * qs.length) ∧
    (headOf kd ++ (descNums qs).flatMap enc16 ++ offs).length = (if (if anyRuns kd then some (flagsOf kd) else none) = none ∨ 4 ≤ qs.length then (headOf kd).length + 8 * qs.length else (headOf kd).length + 4 * qs.length) ∧
    (headOf kd ++ (descNums qs).flatMap enc16 ++ offs).length ≤ (wholeOf qs kd offs).length ∧
    (wholeOf qs kd offs).length = posAt (headOf kd ++ (descNums qs).flatMap enc16 ++ offs).length (bodiesOf qs kd) qs.length := by
  have hkl := hk.1
  have hd : ((descNums qs).flatMap enc16).length = 4 * qs.length := by rw [flatMap_length enc16 2 enc16_length, descNums_length]; omega
  have hw : wholeOf qs kd offs = headOf kd ++ ((descNums qs).flatMap enc16 ++ (offs ++ (bodiesOf qs kd).flatten)) := by unfold wholeOf; simp only [List.append_assoc]
  have hA : (headOf kd ++ (descNums qs).flatMap enc16 ++ offs).length = (headOf kd).length + 4 * qs.length + offLen kd := by rw [List.length_append, List.length_append, hd, ho]
  have hwl : (wholeOf qs kd offs).length = (headOf kd ++ (descNums qs).flatMap enc16 ++ offs).length + (bodiesOf qs kd).flatten.length := by unfold wholeOf; rw [List.length_append]
  have hhl := headOf_length kd
  rw [hkl] at hhl
  refine ⟨?_, ?_, ?_, ?_, ?_, ?_, ?_, ?_⟩
  · have : ∀ K t, (wholeOf qs kd offs).drop 0 = enc32 K ++ t → ∃ b0 b1 b2 b3, (wholeOf qs kd offs)[0]? = some b0 ∧ (wholeOf qs kd offs)[0 + 1]? = some b1 ∧ (wholeOf qs kd offs)[0 + 2]? = some b2 ∧ (wholeOf qs kd offs)[0 + 3]? = some b3 ∧ leN [b0, b1, b2, b3] = K := by
      intro K t h
      obtain ⟨e0, e1, e2, e3⟩ := bytes4 (t := t) h
      exact ⟨_, _, _, _, e0, e1, e2, e3, leN_enc32 K⟩
    cases ha : anyRuns kd
    · refine this _ (enc32 kd.length ++ ((descNums qs).flatMap enc16 ++ (offs ++ (bodiesOf qs kd).flatten))) ?_
      rw [List.drop_zero, hw]; unfold headOf; rw [ha]; rfl
    · refine this _ (flagsOf kd ++ ((descNums qs).flatMap enc16 ++ (offs ++ (bodiesOf qs kd).flatten))) ?_
      rw [List.drop_zero, hw]; unfold headOf; rw [ha]; rfl
  · rw [hwl, hA, hhl]; split <;> omega
  · cases ha : anyRuns kd
    · refine .inl ⟨rfl, rfl, by rw [hhl, ha]; rfl, ?_⟩
      have : (wholeOf qs kd offs).drop 4 = enc32 qs.length ++ ((descNums qs).flatMap enc16 ++ (offs ++ (bodiesOf qs kd).flatten)) := by
        rw [hw]; unfold headOf; rw [ha, hkl]; rfl
      obtain ⟨e0, e1, e2, e3⟩ := bytes4 (t := (descNums qs).flatMap enc16 ++ (offs ++ (bodiesOf qs kd).flatten)) this
      exact ⟨_, _, _, _, e0, e1, e2, e3, leN_enc32 _⟩
    · refine .inr ⟨?_, ?_, ?_, by rw [hhl, ha]; rfl⟩
      · have : (wholeOf qs kd offs).drop 4 = flagsOf kd ++ ((descNums qs).flatMap enc16 ++ (offs ++ (bodiesOf qs kd).flatten)) := by
          rw [hw]; unfold headOf; rw [ha]; rfl
        rw [this, List.take_left' (by rw [flagsOf_length, hkl])]; rfl
      · simp only [if_true]; omega
      · simp only [if_true]; omega
  · omega
  · rw [hw, List.drop_left' rfl, List.take_left' hd]
  · rw [hA]
    unfold offLen
    rw [hkl]
    cases ha : anyRuns kd
    · simp; omega
    · by_cases h4 : 4 ≤ qs.length
      · simp [h4]; omega
      · simp [h4]
  · omega
  · rw [hwl, ← bodiesOf_length hkl, posAt_all]
end Go.Roar

namespace Go.Proofs
open Go.RowKit Go.Roar

theorem loadsA {qs : List (Nat × List (Nat × Nat))} {kd offs : List Nat} (hq : PartsOK qs) (hk : KindsOK qs kd) (ho : offs.length = offLen kd) (hob : ∀ b ∈ offs, b < 256) (hsz : (wholeOf qs kd offs).length ≤ 1000000000) :
    LoadsA (wholeOf qs kd offs) (qs.map fun q => (q.1, rgNums q.2)) := by
  intro S R D C p tp w hs hp hSR hSD hRD hpS hpD hpR hT t1 t2 t3 tH
  have hn := parts_len hq
  have hby := wholeOf_byte hq.2 hk hn hob
  have F := fmt_facts hk ho
  rcases Nat.eq_zero_or_pos qs.length with h0 | h0
  · obtain rfl : qs = [] := List.eq_nil_of_length_eq_zero h0
    obtain ⟨z1, z2, z3⟩ := fmt_zero hk ho
    refine (rzA_any S R D C _ p tp w hs hp hsz hby hSR hSD hRD hpS hpD hpR z1 (by omega) z2).mono ?_
    rintro e w' ⟨rfl, hb', hk'⟩
    refine ⟨by rw [z3]; rfl, ⟨⟨⟨_, _, hb'.cell 0⟩, hb'.lt, by simp, fun i hi => hk'.cell2 (by rintro (h | h | h); exact t1 h; exact t3 h; exact t2 h) (hT i hi), by have := hk'.size; omega, by simp, by simp⟩, ⟨_, _, hb'.cell 1, by simp⟩⟩, hk'⟩
  · obtain ⟨f1, f2, f3, f4, f5, f6, f7, f8⟩ := F h0
    refine (rfA_any S R D C _ p tp qs.length _ _ _ _ _ (qs.map (·.1)) (qs.map fun q => rgCard q.2 - 1) kd (bodiesOf qs kd) _ w hs hp hsz hby hSR hSD hRD hpS hpD hpR h0 hn f1 (by omega) f3 f4 f5 f6 f7 (posAt_zero _ _) (by simp) (by simp) hk.1 (bodiesOf_length hk.1) (fun i key card1 kind body a b c d => whole_items hq.2 hk i key card1 kind body a b c d)).mono ?_
    rintro e w' ⟨rfl, gk, gc, gw, cvs, b1, b2, b3, hl, hc, hk'⟩
    refine ⟨by rw [← f8], loaded_of hq hk b1 b2 b3 hl hc (fun i hi => hk'.cell2 (by rintro (h | h | h); exact t1 h; exact t3 h; exact t2 h) (hT i hi)) (by have := hk'.size; omega), hk'⟩
end Go.Proofs
namespace Go.Proofs
open Go.RowKit Go.Roar
theorem whole_pos (qs : List (Nat × List (Nat × Nat))) (kd offs : List Nat) : 0 < (wholeOf qs kd offs).length := by
  have h := headOf_length kd
  unfold wholeOf
  rw [List.length_append, List.length_append, List.length_append]
  split at h <;> omega
end Go.Proofs
