/-
  Plain laws: the parts of spec.Parts as numbers; the kind taken is no larger than the other one.
-/
import Derived.Test.YtpnnbomjbfjgpaaGreatDoorJQpl
import Derived.Test.YtpnnbomjbfjgpaaGreatDoorKEf
namespace Go.Roar
/-- The parts of spec.Parts, as numbers. -/
theorem parts_OKP {s : List (Nat × Nat)} (h : RgOK 4294967296 s) : OKP ((partsOf s).map fun q => (q.1, rgNums q.2)) ∧ allN ((partsOf s).map fun q => (q.1, rgNums q.2)) = rgNums s := by
  obtain ⟨h1, h2⟩ := partsOf_ok h
  refine ⟨⟨List.pairwise_map.2 h1.1, ?_⟩, ?_⟩
  · intro p hp
    obtain ⟨q, hq, rfl⟩ := List.mem_map.1 hp
    obtain ⟨a, b, c⟩ := h1.2 q hq
    exact ⟨a, rgNums_rising c, rgNums_lt c, rgNums_ne b⟩
  · rw [← h2]
    unfold allN partNums
    rw [List.flatMap_map]
/-- Of a part in few runs the kind taken is no larger than the other one. -/
theorem kind_small {rs : List (Nat × Nat)} (h : RgOK 65536 rs) (hl : rs.length ≤ 400) :
    (kindOf (rgNums rs) = 2 → 2 + 4 * rs.length ≤ (if rgCard rs ≤ 4096 then 2 * rgCard rs else 8192)) ∧ (kindOf (rgNums rs) ≠ 2 → (if rgCard rs ≤ 4096 then 2 * rgCard rs else 8192) ≤ 2 + 4 * rs.length) := by
  unfold kindOf
  rw [runsOf_back h, rgNums_length]
  generalize rgCard rs = n
  generalize rs.length = m at *
  constructor
  · intro hk
    split at hk
    · split <;> omega
    · split at hk <;> simp at hk
  · intro hk
    split at hk
    · exact absurd rfl hk
    · split <;> omega
theorem card_le_len {rs : List (Nat × Nat)} (h : ∀ r ∈ rs, r.2 < 65536) : rgCard rs ≤ rs.length * 65536 := by
  induction rs with
  | nil => simp [rgCard]
  | cons r l ih =>
    have h1 := ih (fun x hx => h x (by simp [hx]))
    have h2 := h r (by simp)
    rw [rgCard_cons, List.length_cons]
    omega
/-- What the walk asks of each part. -/
theorem small_at {qs : List (Nat × List (Nat × Nat))} (hp : PartsOK qs) (hf : FewRuns (qs.map fun q => (q.1, rgNums q.2)) 400) {i : Nat} {q : Nat × List (Nat × Nat)} (hq : qs[i]? = some q) :
    (∀ r ∈ q.2, r.1 ≤ r.2 ∧ r.2 < 4294967296) ∧ q.2.length ≤ 400 ∧ rgCard q.2 ≤ 30000000 ∧ (kindOf (rgNums q.2) = 2 → 2 + 4 * q.2.length ≤ (if rgCard q.2 ≤ 4096 then 2 * rgCard q.2 else 8192)) ∧ (kindOf (rgNums q.2) ≠ 2 → (if rgCard q.2 ≤ 4096 then 2 * rgCard q.2 else 8192) ≤ 2 + 4 * q.2.length) := by
  have hm := List.mem_of_getElem? hq
  obtain ⟨_, _, ho⟩ := hp.2 q hm
  have hl : q.2.length ≤ 400 := by
    have := hf (q.1, rgNums q.2) (List.mem_map.2 ⟨q, hm, rfl⟩)
    rwa [runsOf_back ho] at this
  have hc := card_le_len (fun r hr => (ho.1 r hr).2)
  exact ⟨fun r hr => by have := ho.1 r hr; omega, hl, by omega, kind_small ho hl⟩
end Go.Roar
