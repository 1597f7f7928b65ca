/-
  A slice that is made, as a block known whole; bytes that a slice reads; a list filled from its beginning.
-/
import Derived.Test.YtbfjpbpohkidoaaGreatDoorLe
import Derived.Test.YtbfjpbpohkidoaaGreatDoorLaws
import Derived.StillTailTactics
namespace Go.Roar
open Go.RowKit

theorem Kept.one (w : World) (b o : Nat) (v : Value) : Kept (fun k => k = b) w (w.setCell ⟨b, o, none⟩ v) := Kept.setCell (S := fun k => k = b) (p := ⟨b, o, none⟩) (Kept.refl _ _) (fun _ => rfl) _

theorem Mild.one {w W : World} (h : Mild w W) (b o : Nat) (v : Value) : Kept (fun k => k = b) w (W.setCell ⟨b, o, none⟩ v) := Kept.setCell (S := fun k => k = b) (p := ⟨b, o, none⟩) (h.mono (fun _ _ => False.elim)) (fun _ => rfl) _

/-- A slice's address under which n bytes are read. -/
def RB (w : World) (A : Option Addr) (n c : Nat) (bs : List Nat) : Prop :=
  bs.length = n ∧ n ≤ c ∧ (∀ b ∈ bs, b < 256) ∧ (0 < n → ∃ g o, A = some ⟨g, o, none⟩ ∧ ∀ (j x : Nat), bs[j]? = some x → w.cell? ⟨g, o + j, none⟩ = some (.int .u8 (x : Int)))

theorem RB.kept {S : Nat → Prop} {w w' : World} {A : Option Addr} {n c : Nat} {bs : List Nat} (h : RB w A n c bs) (k : Kept S w w') (hs : ∀ a, A = some a → ¬ S a.block) : RB w' A n c bs :=
  ⟨h.1, h.2.1, h.2.2.1, fun hn => by
    obtain ⟨g, o, rfl, hc⟩ := h.2.2.2 hn
    exact ⟨g, o, rfl, fun j x hx => k.cell2 (hs ⟨g, o, none⟩ rfl) (hc j x hx)⟩⟩
theorem RB.mild {w w' : World} {A : Option Addr} {n c : Nat} {bs : List Nat} (h : RB w A n c bs) (k : Mild w w') : RB w' A n c bs := h.kept k (fun _ _ => id)

/-- ys as far as place q, zs behind it. -/
def mix {α : Type} (ys zs : List α) (q : Nat) : List α := ys.take q ++ zs.drop q
theorem mix_zero {α : Type} (ys zs : List α) : mix ys zs 0 = zs := by simp [mix]
theorem mix_all {α : Type} (ys zs : List α) {q : Nat} (h1 : ys.length = q) (h2 : zs.length = q) : mix ys zs q = ys := by
  unfold mix; rw [List.take_of_length_le (by omega), List.drop_eq_nil_of_le (by omega), List.append_nil]
theorem mix_length {α : Type} (ys zs : List α) (q : Nat) (h : ys.length = zs.length) : (mix ys zs q).length = zs.length := by simp [mix]; omega
theorem mix_set {α : Type} (ys zs : List α) {q : Nat} {y : α} (h : ys.length = zs.length) (hy : ys[q]? = some y) : (mix ys zs q).set q y = mix ys zs (q + 1) := by
  obtain ⟨hq, e⟩ := List.getElem?_eq_some_iff.1 hy
  have h1 : (ys.take q).length = q := by simp; omega
  unfold mix
  rw [List.set_append_right _ _ (by omega), h1, Nat.sub_self, List.drop_eq_getElem_cons (by omega), List.set_cons_zero, List.take_succ_eq_append_getElem hq, e]
  simp

/-- 'make([]T, n)', 'make([]T, n, n)': the new block, known whole. -/
theorem wpList_make_blk {P : Program} {w : World} {ops : Array Oper} {rest : List Oper} {o : Oper} {a : Act} {Q : Exit → Act → World → Prop}
    (hg : o.guard = none) (l c : Operand) (t : TypeId) (hop : o.op = Op.makeSlice t l c)
    (e : TypeId) (i : TypeInfo) (z : Value) (size : Nat) (h1 : P.underlying t = some (.slice e)) (h2 : P.info? e = some i) (h3 : i.zero = some z) (h4 : i.size = size)
    (kl kc : IntKind) (X Y : Int) (n : Nat) (hl : a.eval l = .int kl X) (hc : a.eval c = .int kc Y) (hL : X = (n : Int)) (hC : Y = (n : Int)) (b2 : i.bytes * n ≤ 281474976710656) (b3 : n ≤ maxLen)
    (hK : ∀ w', Blk w' w.heap.size e (madeCells z.cells (n * size)).toList → Mild w w' → w.heap.size < w'.heap.size → wpList P ops Q rest (a.put o.dst (.slice (some ⟨w.heap.size, 0, none⟩) n n)) w') :
    wpList P ops Q (o :: rest) a w := by
  refine wpList_make_full w hg l c t hop w.heap.size e i z size h1 h2 h3 h4 kl kc X Y n hl hc hL hC b2 b3 (Nat.le_refl _) ?_
  intro w' hown hgr
  obtain ⟨hl, ⟨hv, _⟩ | ⟨g, k, r, hv, hr, _, hb⟩⟩ := Own.ofRow hown
  · simp at hv
  · simp only [Value.slice.injEq, Option.some.injEq, Addr.mk.injEq, and_true, true_and] at hv
    obtain ⟨rfl, hk⟩ := hv
    obtain rfl : k = 0 := by omega
    obtain rfl : r = [] := List.eq_nil_of_length_eq_zero (by simpa using hr)
    rw [List.append_nil] at hb
    exact hK _ hb ((Kept.refl _ _).grown hgr (by intro k hk; cases hk)) hb.lt
theorem made_all (z : Value) (n : Nat) (hz : z.cells = #[z]) : ∀ b ∈ (madeCells z.cells n).toList, b = z := by
  intro b hb
  rw [hz] at hb
  simp only [madeCells, Array.mem_toList_iff, Array.mem_map] at hb
  obtain ⟨j, _, rfl⟩ := hb
  simp [Nat.mod_one]
theorem made_length (z : Value) (n : Nat) : (madeCells z.cells n).toList.length = n := by simp [size_madeCells]
/-- A region that draws its order: reads first, then what stands from place n on. -/
theorem wp_region_tail {P : Program} {id : Nat} {Q : Exit → Act → World → Prop} {a : Act} {w : World} {l : List Oper} (n : Nat) (hm : P.follows .mixedOrders = true) (hB : Region.lexTailB .any l.toArray n = true)
    (h : wpStill P l.toArray w.drew (fun a' => wpList P l.toArray Q (l.drop n) a' w.drew) (l.take n) a) : (Code.region id l.toArray true).wp P Q a w :=
  wp_region_still_tail n hm hB h

/-- Where a slice that is cut from place l on begins: at a cut that leaves no capacity Go keeps the elder address. -/
def tlA (g o l cap sz : Nat) : Addr := if cap = l then ⟨g, o, none⟩ else ⟨g, o + l * sz, none⟩
theorem tlA_of {g o l cap sz : Nat} (h : l < cap) : tlA g o l cap sz = ⟨g, o + l * sz, none⟩ := by unfold tlA; rw [if_neg (by omega)]
theorem tlA_zero (g o cap sz : Nat) : tlA g o 0 cap sz = ⟨g, o, none⟩ := by unfold tlA; simp

theorem run_slice_from {P : Program} (w : World) {t e : TypeId} {sz : Nat} (ht : P.underlying t = some (.slice e)) (hs : (P.info? e).map (·.size) = some sz) (g o len cap l : Nat) (k : IntKind) (j : Int) (hj : j = (l : Int)) (hl : l ≤ len) :
    (Instr.slice t (.slice (some ⟨g, o, none⟩) len cap) (some (.int k j)) none none).run P w = .ok (.slice (some (tlA g o l cap sz)) (len - l) (cap - l)) w := by
  subst hj
  cases hq : P.info? e with
  | none => simp [hq] at hs
  | some i =>
    have hi : i.size = sz := by simpa [hq] using hs
    subst hi
    simp only [Instr.slice, Sem.run_bind, run_underlying ht, Result.andThen_ok, Instr.sliceBounds, Instr.sliceBound]
    simp [sizeOf, typeInfo, hq, hl, asIntOf, go_sem]
    unfold tlA
    by_cases hc : cap = l
    · simp [hc]
    · simp only [hc, if_false]
theorem run_cut_from {P : Program} (w : World) {t e : TypeId} (ht : P.underlying t = some (.slice e)) (hs : (P.info? e).map (·.size) = some 1) (g o len cap l : Nat) (k : IntKind) (j : Int) (hj : j = (l : Int)) (hl : l ≤ len) (hc : l < cap) :
    (Instr.slice t (.slice (some ⟨g, o, none⟩) len cap) (some (.int k j)) none none).run P w = .ok (.slice (some ⟨g, o + l, none⟩) (len - l) (cap - l)) w := by
  have := run_slice_from w ht hs g o len cap l k j hj hl
  rwa [tlA_of hc, Nat.mul_one] at this
end Go.Roar
