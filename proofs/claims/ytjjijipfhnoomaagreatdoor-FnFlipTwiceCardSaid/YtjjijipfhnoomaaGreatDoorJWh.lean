/-
  A set as it lies, apart, is a set that the iterator tells; the kinds of its containers.
  Slices that read ranges; laws.is; what an append leaves.
  Contracts: spec.Made, laws.set.
  A range on its way down, in a list that is being sorted.
-/
import Derived.Test.YtjjijipfhnoomaaGreatDoorJKo
import Derived.Test.YtjjijipfhnoomaaGreatDoorKTdp
import Derived.Test.YtjjijipfhnoomaaGreatDoorJQpl
import Derived.Deep.QuietTactic
import Derived.BigQuiet
namespace Go.Roar
open Go.RowKit Go.Proofs

theorem ivNums_of (rs : List (Nat × Nat)) : ivNums (rs.map fun r => (r.1, r.2 - r.1)) = rgNums rs := by
  unfold ivNums rgNums
  rw [List.flatMap_map]

theorem KC.con {c : Value} {l : List Nat} {k : Nat} {L : List HA} {w : World} {H : Nat} (h : KC c l k L) (hp : Parts w L) (hH : ∀ b ∈ foot L, b < H) : Con w H c l := by
  cases h with
  | arr p v _ hs hb h0 hn =>
    have ho : Own w 1 57 v l.length (u16s l) := hp.all (O 1 57 v l.length (u16s l)) (by simp [AC])
    have hB : Blk w p 106 [v] := hp.all (B p 106 [v]) (by simp [AC])
    obtain ⟨g, c, rfl, _, _⟩ := Own.shape ho (List.length_pos_iff.2 h0)
    exact .inl ⟨p, g, l.length, c, rfl, hH p (by simp [AC, B, O]), hH g (by simp [AC, B, O]), hB.cell 0, rfl, by omega, fun i x hx => (Own.cellAt ho (u16s_get hx)).1⟩
  | bmp p g c ws _ hl hb h0 hx =>
    have ho : Own w 1 23 (.slice (some ⟨g, 0, none⟩) 1024 c) 1024 (u64s ws) := hp.all (O 1 23 (.slice (some ⟨g, 0, none⟩) 1024 c) 1024 (u64s ws)) (by simp [BC])
    have hB : Blk w p 122 [.int .i64 (l.length : Int), .slice (some ⟨g, 0, none⟩) 1024 c] := hp.all (B p 122 [.int .i64 (l.length : Int), .slice (some ⟨g, 0, none⟩) 1024 c]) (by simp [BC])
    exact .inr (.inr ⟨p, g, c, ws, rfl, hH p (by simp [BC, B, O]), hH g (by simp [BC, B, O]), hl, hb, hB.cell 1, ho, hx.symm⟩)
  | run p v rs _ hr h0 hx =>
    have ho : Own w 2 114 v rs.length (ivs rs) := hp.all (O 2 114 v rs.length (ivs rs)) (by simp [RC])
    have hB : Blk w p 112 [v] := hp.all (B p 112 [v]) (by simp [RC])
    obtain ⟨g, c, rfl, _, _⟩ := Own.shape ho (List.length_pos_iff.2 h0)
    have hlen := rg_length (n := 65536) rs 0 hr (by simp) (by omega)
    have hid : (rs.map (fun r => (r.1, r.2 - r.1))).map (fun r => (r.1, r.1 + r.2)) = rs := by
      rw [List.map_map]
      refine (List.map_congr_left (g := id) (fun r hr' => ?_)).trans (List.map_id rs)
      have := hr.1 r hr'
      show (r.1, r.1 + (r.2 - r.1)) = r
      rw [Nat.add_sub_cancel' this.1]
    refine .inr (.inl ⟨p, g, rs.length, c, rs.map (fun r => (r.1, r.2 - r.1)), rfl, hH p (by simp [RC, B, O]), hH g (by simp [RC, B, O]), hB.cell 0, by simp, by omega, fun r hr' => ?_, fun i r hi => ?_, by rw [hid]; exact hr, ?_⟩)
    · obtain ⟨q, hq, rfl⟩ := List.mem_map.1 hr'
      have := hr.1 q hq
      dsimp only; omega
    · rw [List.getElem?_map] at hi
      obtain ⟨q, hq, rfl⟩ := Option.map_eq_some_iff.1 hi
      exact ⟨(Own.cellAt ho (ivs_at hq).1).1, (Own.cellAt ho (ivs_at hq).2).1⟩
    · rw [ivNums_of]; exact hx.symm
/-- The numbers, as the iterator reckons them. -/
theorem nums_allN (ps : List (Nat × List Nat)) : nums ps = allN ps := rfl
theorem whole_of {w : World} {H p : Nat} {t : TypeId} {vk vc vw : Value} {q : List Kon} (h : Parts w (BMP p t vk vc vw q)) (ok : OKP (psOf q)) (hT : Tab w) (hTH : 0 < H) (hH : ∀ b ∈ foot (BMP p t vk vc vw q), b < H) :
    Whole w H p (psOf q) := by
  have hra := RA.of (Parts.left h)
  have hl : (psOf q).length = (q.map (·.key)).length := by simp [psOf]
  obtain ⟨G, c, hv, hg⟩ := hra.keys.sliceOf
  obtain ⟨G', c', hv', hg'⟩ := hra.conts.sliceOf
  have hpH : p < H := hH p (by simp [BMP, RAL, B, O])
  refine ⟨⟨G, c, by rw [hl, hra.k, hv]⟩, hpH, ok.length, hT, hTH, fun x hx => ?_, fun i x hx => ?_⟩
  · have := ok.2 x hx
    exact ⟨this.1, this.2.2.2, this.2.2.1⟩
  · have hi : i < q.length := by have := (List.getElem?_eq_some_iff.1 hx).1; simpa [psOf] using this
    obtain ⟨y, hy⟩ : ∃ y, q[i]? = some y := ⟨_, List.getElem?_eq_getElem hi⟩
    have hxy := (psOf_at hy).symm.trans hx
    simp only [Option.some.injEq] at hxy
    subst hxy
    obtain ⟨gk, rfl, hgk⟩ := hg (by simp; omega)
    obtain ⟨gc, rfl, hgc⟩ := hg' (by simp; omega)
    have hk := hra.keys
    have hc := hra.conts
    rw [hv] at hk
    rw [hv'] at hc
    obtain ⟨L, hL1, hL2, hL3⟩ : KRepK w y.v y.l y.k y.F := (Parts.right h).all (KA y.v y.l y.k y.F) (List.mem_map.2 ⟨y, List.mem_of_getElem? hy, rfl⟩)
    refine ⟨gk, c, gc, c', y.v, by rw [hl, hra.k, hv], by rw [hl, hra.c, hv'], hH gk (by simp [BMP, RAL, B, O, hgk]), hH gc (by simp [BMP, RAL, B, O, hgc]), ?_, ?_, ?_⟩
    · exact (Own.cellAt hk (u16s_get (by rw [List.getElem?_map, hy]; rfl))).1
    · exact (Own.cellAt hc (by rw [List.getElem?_map, hy]; rfl)).1
    · refine hL1.con hL2 (fun b hb => hH b ?_)
      rw [hL3] at hb
      unfold BMP
      rw [foot_append]
      exact List.mem_append_right _ (foot_mem (A := KA y.v y.l y.k y.F) (List.mem_map.2 ⟨y, List.mem_of_getElem? hy, rfl⟩) hb)
end Go.Roar

namespace Go.Roar
open Go.RowKit Go.Proofs

/-- A slice that reads ranges, as wide numbers. -/
def RV (w : World) (v : Value) (rs : List (Nat × Nat)) : Prop :=
  ∃ A c, v = .slice A rs.length c ∧ ∀ (i : Nat) (r : Nat × Nat), rs[i]? = some r → ∃ g, A = some ⟨g, 0, none⟩ ∧ w.cell? ⟨g, i * 2, none⟩ = some (.int .i64 (r.1 : Int)) ∧ w.cell? ⟨g, i * 2 + 1, none⟩ = some (.int .i64 (r.2 : Int))
theorem RV.kept {S : Nat → Prop} {w w' : World} {v : Value} {rs : List (Nat × Nat)} (h : RV w v rs) (hk : Kept S w w') (hs : ∀ b ∈ blkOf v, ¬ S b) : RV w' v rs := by
  obtain ⟨A, c, rfl, h⟩ := h
  refine ⟨A, c, rfl, fun i r hr => ?_⟩
  obtain ⟨g, rfl, h1, h2⟩ := h i r hr
  exact ⟨g, rfl, hk.cell2 (hs g (by simp)) h1, hk.cell2 (hs g (by simp)) h2⟩
theorem RV.mild {w w' : World} {v : Value} {rs : List (Nat × Nat)} (h : RV w v rs) (hk : Mild w w') : RV w' v rs := h.kept hk (fun _ _ => id)
/-- A slice that reads ranges, as narrow numbers. -/
def SV (w : World) (v : Value) (rs : List (Nat × Nat)) : Prop :=
  ∃ A c, v = .slice A rs.length c ∧ ∀ (i : Nat) (r : Nat × Nat), rs[i]? = some r → ∃ g, A = some ⟨g, 0, none⟩ ∧ w.cell? ⟨g, i * 2, none⟩ = some (.int .u32 (r.1 : Int)) ∧ w.cell? ⟨g, i * 2 + 1, none⟩ = some (.int .u32 (r.2 : Int))
theorem SV.kept {S : Nat → Prop} {w w' : World} {v : Value} {rs : List (Nat × Nat)} (h : SV w v rs) (hk : Kept S w w') (hs : ∀ b ∈ blkOf v, ¬ S b) : SV w' v rs := by
  obtain ⟨A, c, rfl, h⟩ := h
  refine ⟨A, c, rfl, fun i r hr => ?_⟩
  obtain ⟨g, rfl, h1, h2⟩ := h i r hr
  exact ⟨g, rfl, hk.cell2 (hs g (by simp)) h1, hk.cell2 (hs g (by simp)) h2⟩
theorem rgCells_at {rs : List (Nat × Nat)} {i : Nat} {r : Nat × Nat} (h : rs[i]? = some r) : (rgCells rs)[i * 2]? = some (.int .u32 (r.1 : Int)) ∧ (rgCells rs)[i * 2 + 1]? = some (.int .u32 (r.2 : Int)) := by
  obtain ⟨hi, rfl⟩ := List.getElem?_eq_some_iff.1 h
  have e : rgCells rs = rgCells (rs.take i) ++ rgCells (rs[i] :: rs.drop (i + 1)) := by
    rw [← rgCells_append]; congr 1
    rw [← List.drop_eq_getElem_cons hi, List.take_append_drop]
  have hl : (rgCells (rs.take i)).length = i * 2 := by rw [rgCells_length, List.length_take]; omega
  rw [e]
  constructor
  · rw [List.getElem?_append_right (by omega), hl, Nat.sub_self]; rfl
  · rw [List.getElem?_append_right (by omega), hl, show i * 2 + 1 - i * 2 = 1 by omega]; rfl
theorem SV.own {w : World} {v : Value} {rs : List (Nat × Nat)} (h : Own w 2 43 v rs.length (rgCells rs)) : SV w v rs := by
  rcases h.2 with ⟨rfl, h0⟩ | ⟨g, k, r, rfl, hr, hm, hb⟩
  · obtain rfl := List.eq_nil_of_length_eq_zero h0
    exact ⟨_, _, rfl, by simp⟩
  · refine ⟨_, _, rfl, fun i x hx => ⟨g, rfl, ?_, ?_⟩⟩
    · have e := (rgCells_at hx).1
      exact (hb.cell _).trans (by rw [List.getElem?_append_left (List.getElem?_eq_some_iff.1 e).1]; exact e)
    · have e := (rgCells_at hx).2
      exact (hb.cell _).trans (by rw [List.getElem?_append_left (List.getElem?_eq_some_iff.1 e).1]; exact e)
end Go.Roar
namespace Go.Roar
open Go.RowKit Go.Proofs
/-- Ranges as cells of wide numbers. -/
def rcs (rs : List (Nat × Nat)) : List Value := rs.flatMap fun r => [.int .i64 ((r.1 : Nat) : Int), .int .i64 ((r.2 : Nat) : Int)]
theorem rcs_append (a b : List (Nat × Nat)) : rcs (a ++ b) = rcs a ++ rcs b := by simp [rcs]
theorem rcs_length (a : List (Nat × Nat)) : (rcs a).length = a.length * 2 := by
  induction a with
  | nil => rfl
  | cons r l ih => rw [show r :: l = [r] ++ l from rfl, rcs_append, List.length_append, ih]; simp [rcs]; omega
theorem rcs_at {rs : List (Nat × Nat)} {i : Nat} {r : Nat × Nat} (h : rs[i]? = some r) : (rcs rs)[i * 2]? = some (.int .i64 (r.1 : Int)) ∧ (rcs rs)[i * 2 + 1]? = some (.int .i64 (r.2 : Int)) := by
  obtain ⟨hi, rfl⟩ := List.getElem?_eq_some_iff.1 h
  have e : rcs rs = rcs (rs.take i) ++ rcs (rs[i] :: rs.drop (i + 1)) := by
    rw [← rcs_append]; congr 1
    rw [← List.drop_eq_getElem_cons hi, List.take_append_drop]
  have hl : (rcs (rs.take i)).length = i * 2 := by rw [rcs_length, List.length_take]; omega
  rw [e]
  constructor
  · rw [List.getElem?_append_right (by omega), hl, Nat.sub_self]; rfl
  · rw [List.getElem?_append_right (by omega), hl, show i * 2 + 1 - i * 2 = 1 by omega]; rfl
theorem RV.own {w : World} {v : Value} {rs : List (Nat × Nat)} (h : Own w 2 38 v rs.length (rcs rs)) : RV w v rs := by
  rcases h.2 with ⟨rfl, h0⟩ | ⟨g, k, r, rfl, hr, hm, hb⟩
  · obtain rfl := List.eq_nil_of_length_eq_zero h0
    exact ⟨_, _, rfl, by simp⟩
  · refine ⟨_, _, rfl, fun i x hx => ⟨g, rfl, ?_, ?_⟩⟩
    · have e := (rcs_at hx).1
      exact (hb.cell _).trans (by rw [List.getElem?_append_left (List.getElem?_eq_some_iff.1 e).1]; exact e)
    · have e := (rcs_at hx).2
      exact (hb.cell _).trans (by rw [List.getElem?_append_left (List.getElem?_eq_some_iff.1 e).1]; exact e)
/-- The ranges that hold any number. -/
def keep (l : List (Nat × Nat)) : List (Nat × Nat) := l.filter fun r => decide (r.1 ≤ r.2)
theorem keep_take {l : List (Nat × Nat)} {k : Nat} {r : Nat × Nat} (h : l[k]? = some r) : keep (l.take (k + 1)) = if r.1 ≤ r.2 then keep (l.take k) ++ [r] else keep (l.take k) := by
  obtain ⟨hk, rfl⟩ := List.getElem?_eq_some_iff.1 h
  unfold keep
  rw [List.take_succ_eq_append_getElem hk, List.filter_append]
  by_cases hc : l[k].1 ≤ l[k].2 <;> simp [hc]
end Go.Roar
namespace Go.Roar
open Go.RowKit Go.Proofs
/-- What an append leaves, where the slice is of the function's own. -/
theorem grow_mild {w wr wa w4 : World} {v v' : Value} (hm : Mild w wr) (ka : Mild wr wa) (hg : wa.grownBy w4 v.ownBlock) (hf : ∀ b ∈ blkOf v, w.heap.size ≤ b) (hat : v'.ownBlock = v.ownBlock ∨ v'.ownBlock = some wa.heap.size) :
    Mild w w4 ∧ ∀ b ∈ blkOf v', w.heap.size ≤ b := by
  have z1 := hm.size
  have z2 := ka.size
  refine ⟨Kept.then (hm.trans ka) (Kept.grown (S := fun b => w.heap.size ≤ b) (Kept.refl _ _) hg (fun k hk _ => hf k (by unfold blkOf; rw [hk]; simp))) (fun k hk h => by omega), ?_⟩
  intro b hb
  rcases hat with h | h
  · exact hf b (by unfold blkOf at hb ⊢; rw [← h]; exact hb)
  · unfold blkOf at hb; rw [h] at hb; simp at hb; omega
theorem grow_keep {wr w4 : World} {v v' : Value} {o : Obj} {q : Nat} {t : TypeId} {cs : List Value} (hb : Blk wr q t cs) (hn : q ∉ blkOf v) (hg : (wr.alloc o).grownBy w4 v.ownBlock) (hat : v'.ownBlock = v.ownBlock ∨ v'.ownBlock = some (wr.alloc o).heap.size) : Blk w4 q t cs ∧ q ∉ blkOf v' := by
  have hl := hb.lt
  constructor
  · exact (hb.alloc o).kept (Kept.grown (S := fun b => b ∈ blkOf v) (Kept.refl _ _) hg (fun k hk _ => by unfold blkOf; rw [hk]; simp)) hn
  · intro h
    rcases hat with e | e
    · unfold blkOf at h hn; rw [e] at h; exact hn h
    · unfold blkOf at h; rw [e] at h; simp at h; omega
theorem own_news {w : World} {size : Nat} {e : TypeId} {g n c : Nat} {xs : List Value} (h : Own w size e (.slice (some ⟨g, 0, none⟩) n c) n xs) : ∀ (j : Nat) (u : Value), xs[j]? = some u → w.cell? ((⟨g, 0, none⟩ : Addr).add j) = some u := by
  intro j u hj
  have e : (⟨g, 0, none⟩ : Addr).add j = ⟨g, j, none⟩ := by
    unfold Addr.add
    by_cases hj0 : j = 0
    · subst hj0; simp
    · simp [hj0]
  rw [e]
  exact h.at hj
/-- What an append leaves of another slice. -/
theorem grow_apart {wa w4 : World} {v v' u : Value} {size n : Nat} {e : TypeId} {xs : List Value} (ho : Own wa size e u n xs) (hd : ∀ b ∈ blkOf u, b ∉ blkOf v) (hg : wa.grownBy w4 v.ownBlock) (hat : v'.ownBlock = v.ownBlock ∨ v'.ownBlock = some wa.heap.size) :
    Own w4 size e u n xs ∧ ∀ b ∈ blkOf u, b ∉ blkOf v' := by
  have hl := ho.lt
  refine ⟨ho.kept (Kept.grown (S := fun b => b ∈ blkOf v) (Kept.refl _ _) hg (fun k hk _ => by unfold blkOf; rw [hk]; simp)) hd, ?_⟩
  intro b hb h
  rcases hat with e | e
  · have := hd b hb
    unfold blkOf at h this; rw [e] at h; exact this h
  · have := hl b hb
    unfold blkOf at h; rw [e] at h; simp at h; omega
theorem Own_drew {w : World} {size : Nat} {e : TypeId} {v : Value} {n : Nat} {xs : List Value} (h : Own w size e v n xs) : Own w.drew size e v n xs := h.kept (S := fun _ => False) (Kept.refl _ _).drew (fun _ _ => id)
theorem Own.setCell {w : World} {size : Nat} {e : TypeId} {g n c : Nat} {xs : List Value} (h : Own w size e (.slice (some ⟨g, 0, none⟩) n c) n xs) (i : Nat) (u : Value) (hi : i < xs.length) :
    Own (w.setCell ⟨g, i, none⟩ u) size e (.slice (some ⟨g, 0, none⟩) n c) n (xs.set i u) := by
  rcases h.2 with ⟨h0, _⟩ | ⟨g', k, r, hv, hr, hm, hb⟩
  · cases h0
  · obtain ⟨rfl, rfl⟩ : g' = g ∧ c = n + k := by simp at hv; exact ⟨hv.1.symm, hv.2⟩
    refine ⟨by rw [List.length_set]; exact h.1, .inr ⟨g', k, r, rfl, hr, hm, ?_⟩⟩
    have := hb.set i u
    rw [List.set_append_left _ _ hi] at this
    exact this
theorem inR_keep (l : List (Nat × Nat)) (x : Nat) : inR (keep l) x ↔ inR l x := inR_filter l x
end Go.Roar

namespace Go.Proofs
open Go.RowKit Go.Roar
def MadeC : Prop := ∀ (u : Value) (rs : List (Nat × Nat)) (w : World), RV w u rs → (∀ r ∈ rs, r.1 < 4294967296 ∧ r.2 < 4294967296) → rs.length ≤ 1000000 →
    Calls Tryz.prog 15 #[u] w fun e w' => ∃ v s, e = .returned v ∧ Own w' 2 38 v s.length (rcs s) ∧ RgOK 4294967296 s ∧ rgCard s ≤ rgCard (keep rs) ∧ s.length ≤ rs.length ∧ (∀ x, x ∈ rgNums s ↔ inR rs x) ∧ Mild w w' ∧ (∀ b ∈ blkOf v, w.heap.size ≤ b)

/-- A slice that came in, that reads spans. -/
def SG (w : World) (v : Value) (rs : List (Nat × Nat)) : Prop :=
  ∃ A c, v = .slice A rs.length c ∧ ∀ (i : Nat) (r : Nat × Nat), rs[i]? = some r → ∃ a : Addr, A = some a ∧ w.cell? (a.add (i * 2)) = some (.int .u32 (r.1 : Int)) ∧ w.cell? (a.add (i * 2 + 1)) = some (.int .u32 (r.2 : Int))

def SetC : Prop := ∀ (u : Value) (rs : List (Nat × Nat)) (w : World), SG w u rs → (∀ r ∈ rs, r.1 < 4294967296 ∧ r.2 < 4294967296) → rs.length ≤ 2147483647 →
    Calls Tryz.prog 6 #[u] w fun e w' => Mild w w' ∧ ((∃ v, e = .returned (.tuple #[v, .bool false])) ∨ ∃ v s, e = .returned (.tuple #[v, .bool true]) ∧ RV w' v s ∧ RgOK 4294967296 s ∧ rgCard s ≤ 200000 ∧ s.length ≤ 400 ∧ rs.length ≤ 400 ∧ rgCard (keep rs) ≤ 200000 ∧ ∀ x, x ∈ rgNums s ↔ inR rs x)
end Go.Proofs

namespace Go.Roar

/-- The list M while the range at place j goes down: what lies before it and behind it, up to place k, is in order. -/
def Srtd (k n : Nat) (c : List (Nat × Nat)) (M : List (Nat × Nat)) (j : Nat) : Prop :=
  ∃ P x S T, M = P ++ x :: (S ++ T) ∧ P.length = j ∧ P.length + S.length = k ∧ Srt (P ++ S) ∧ (∀ s ∈ S, x.1 ≤ s.1) ∧ (∀ r ∈ M, r.1 ≤ r.2 ∧ r.2 < 4294967296) ∧ M.Perm c ∧ M.length = n
/-- The list M, of which the first k are in order. -/
def Srk (k n : Nat) (c : List (Nat × Nat)) (M : List (Nat × Nat)) : Prop := Srt (M.take k) ∧ (∀ r ∈ M, r.1 ≤ r.2 ∧ r.2 < 4294967296) ∧ M.Perm c ∧ M.length = n

theorem srtd_start {k n : Nat} {c : List (Nat × Nat)} {M : List (Nat × Nat)} (h : Srk k n c M) (hk : k < n) : Srtd k n c M k := by
  obtain ⟨h1, h2, h3, h4⟩ := h
  refine ⟨M.take k, M[k], [], M.drop (k + 1), ?_, by rw [List.length_take]; omega, by simp; omega, by simpa using h1, by simp, h2, h3, h4⟩
  rw [List.nil_append, ← List.drop_eq_getElem_cons (by omega), List.take_append_drop]
theorem srtd_end {k n : Nat} {c : List (Nat × Nat)} {M : List (Nat × Nat)} {j : Nat} (h : Srtd k n c M j) (hl : ∀ p ∈ M.take j, ∀ x, M[j]? = some x → p.1 ≤ x.1) : Srk (k + 1) n c M := by
  obtain ⟨P, x, S, T, rfl, h1, h2, h3, h4, h5, h6, h7⟩ := h
  refine ⟨?_, h5, h6, h7⟩
  have e : (P ++ x :: (S ++ T)).take (k + 1) = P ++ x :: S := by
    rw [show P ++ x :: (S ++ T) = (P ++ x :: S) ++ T by simp, List.take_left' (by simp; omega)]
  rw [e]
  refine srt_in h3 h4 (fun p hp => hl p ?_ x ?_)
  · rw [List.take_left' h1]; exact hp
  · rw [List.getElem?_append_right (by omega), h1, Nat.sub_self]; rfl
theorem srtd_end0 {k n : Nat} {c : List (Nat × Nat)} {M : List (Nat × Nat)} (h : Srtd k n c M 0) : Srk (k + 1) n c M := srtd_end h (by simp)
theorem srtd_endp {k n : Nat} {c : List (Nat × Nat)} {M : List (Nat × Nat)} {j : Nat} {p x : Nat × Nat} (h : Srtd k n c M (j + 1)) (hp : M[j]? = some p) (hx : M[j + 1]? = some x) (hle : p.1 ≤ x.1) : Srk (k + 1) n c M := by
  refine srtd_end h (fun q hq y hy => ?_)
  rw [hx] at hy; simp at hy; subst hy
  obtain ⟨P, z, S, T, rfl, h1, h2, h3, h4, h5, h6, h7⟩ := h
  rw [List.take_left' h1] at hq
  rcases List.eq_nil_or_concat P with rfl | ⟨P0, y, rfl⟩
  · simp at hq
  · rw [List.concat_eq_append] at *
    have e : y = p := by
      rw [List.append_assoc, List.getElem?_append_right (by simp at h1; omega), show j - P0.length = 0 by simp at h1; omega] at hp
      simpa using hp
    subst e
    have h3' : Srt (P0 ++ [y]) := (List.pairwise_append.1 h3).1
    exact srt_last h3' hle q hq
theorem srtd_lt {k n : Nat} {c : List (Nat × Nat)} {M : List (Nat × Nat)} {j : Nat} (h : Srtd k n c M j) : j ≤ k ∧ k < n ∧ M.length = n := by
  obtain ⟨P, x, S, T, rfl, h1, h2, h3, h4, h5, h6, h7⟩ := h
  simp at h7 ⊢; omega
theorem srtd_swap {k n : Nat} {c : List (Nat × Nat)} {M : List (Nat × Nat)} {j : Nat} {p x : Nat × Nat} (h : Srtd k n c M (j + 1)) (hp : M[j]? = some p) (hx : M[j + 1]? = some x) (hlt : x.1 < p.1) : Srtd k n c ((M.set (j + 1) p).set j x) j := by
  obtain ⟨P, z, S, T, rfl, h1, h2, h3, h4, h5, h6, h7⟩ := h
  have e0 : z = x := by
    rw [List.getElem?_append_right (by omega), h1, Nat.sub_self] at hx
    simpa using hx
  subst e0
  rcases List.eq_nil_or_concat P with rfl | ⟨P0, y, rfl⟩
  · simp at h1
  · rw [List.concat_eq_append] at *
    have hj : P0.length = j := by simp at h1; omega
    have e : y = p := by
      rw [List.append_assoc, List.getElem?_append_right (by omega), show j - P0.length = 0 by omega] at hp
      simpa using hp
    subst e
    have e1 : (((P0 ++ [y] ++ z :: (S ++ T)).set (j + 1) y).set j z) = P0 ++ z :: (y :: S ++ T) := by
      subst hj
      rw [List.append_assoc, List.set_append_right _ _ (by omega), List.set_append_right _ _ (by omega)]
      simp
    rw [e1]
    have e2 : P0 ++ [y] ++ z :: (S ++ T) = P0 ++ y :: z :: (S ++ T) := by simp
    rw [e2] at h5 h6 h7
    refine ⟨P0, z, y :: S, T, rfl, hj, by simp at h2 ⊢; omega, srt_down h3, ?_, ?_, ?_, ?_⟩
    · intro s hs
      rcases List.mem_cons.1 hs with rfl | hs
      · omega
      · exact h4 s hs
    · intro r hr
      exact h5 r (mem_swap hr)
    · exact (List.Perm.append_left P0 (List.Perm.swap y z (S ++ T))).trans h6
    · simp at h7 ⊢; omega

theorem rcs_set (M : List (Nat × Nat)) : ∀ (i : Nat) (r : Nat × Nat), ((rcs M).set (i * 2) (.int .i64 (r.1 : Int))).set (i * 2 + 1) (.int .i64 (r.2 : Int)) = rcs (M.set i r) := by
  induction M with
  | nil => intro i r; rfl
  | cons m l ih =>
    intro i r
    cases i with
    | zero => rfl
    | succ i =>
      have := ih i r
      simp only [rcs, List.flatMap_cons, List.cons_append, List.nil_append, List.set_cons_succ] at this ⊢
      rw [show (i + 1) * 2 = i * 2 + 1 + 1 by omega, show i * 2 + 1 + 1 + 1 = (i * 2 + 1) + 1 + 1 by omega]
      simp only [List.set_cons_succ]
      rw [this]
theorem merge_take {l : List (Nat × Nat)} {k : Nat} {r : Nat × Nat} (h : l[k]? = some r) : (l.take (k + 1)).foldl mergeStep [] = mergeStep ((l.take k).foldl mergeStep []) r := by
  obtain ⟨hk, rfl⟩ := List.getElem?_eq_some_iff.1 h
  rw [List.take_succ_eq_append_getElem hk, List.foldl_append]; rfl
end Go.Roar
