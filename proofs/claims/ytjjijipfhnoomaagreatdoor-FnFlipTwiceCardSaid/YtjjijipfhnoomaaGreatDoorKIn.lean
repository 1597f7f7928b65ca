/-
  The iterator of a set: HasNext, Next, Initialize, Iterator.
-/
import Derived.Test.YtjjijipfhnoomaaGreatDoorKIi
import Derived.Lib.EndianBits
namespace Go.Roar
open Go.RowKit Go.Proofs

/-- What the container c tells, its blocks below H. -/
def Con (w : World) (H : Nat) (v : Value) (l : List Nat) : Prop :=
  (∃ (q g m c : Nat), v = .iface 82 (.pointer (some ⟨q, 0, none⟩)) ∧ q < H ∧ g < H ∧ w.cell? ⟨q, 0, none⟩ = some (.slice (some ⟨g, 0, none⟩) m c) ∧ l.length = m ∧ m ≤ 65536 ∧ (∀ (i x : Nat), l[i]? = some x → w.cell? ⟨g, i, none⟩ = some (.int .u16 (x : Int)))) ∨
  (∃ (q g m c : Nat) (rs : List (Nat × Nat)), v = .iface 90 (.pointer (some ⟨q, 0, none⟩)) ∧ q < H ∧ g < H ∧ w.cell? ⟨q, 0, none⟩ = some (.slice (some ⟨g, 0, none⟩) m c) ∧ rs.length = m ∧ m ≤ 65536 ∧ (∀ r ∈ rs, r.1 + r.2 < 65536) ∧
    (∀ (i : Nat) (r : Nat × Nat), rs[i]? = some r → w.cell? ⟨g, i * 2, none⟩ = some (.int .u16 (r.1 : Int)) ∧ w.cell? ⟨g, i * 2 + 1, none⟩ = some (.int .u16 (r.2 : Int))) ∧ RgOK 65536 (rs.map fun r => (r.1, r.1 + r.2)) ∧ l = ivNums rs) ∨
  (∃ (q g c : Nat) (ws : List Nat), v = .iface 99 (.pointer (some ⟨q, 0, none⟩)) ∧ q < H ∧ g < H ∧ ws.length = 1024 ∧ (∀ x ∈ ws, x < 18446744073709551616) ∧ w.cell? ⟨q, 1, none⟩ = some (.slice (some ⟨g, 0, none⟩) 1024 c) ∧ Own w 1 23 (.slice (some ⟨g, 0, none⟩) 1024 c) 1024 (u64s ws) ∧ l = restFrom (bitOf ws) 0)

theorem Con.kept {S : Nat → Prop} {w w' : World} {H : Nat} {v : Value} {l : List Nat} (h : Con w H v l) (hk : Kept S w w') (hs : ∀ b, b < H → ¬ S b) : Con w' H v l := by
  rcases h with ⟨q, g, m, c, a0, a1, a2, a3, a4, a5, a6⟩ | ⟨q, g, m, c, rs, a0, a1, a2, a3, a4, a5, a6, a7, a8⟩ | ⟨q, g, c, ws, a0, a1, a2, a3, a4, a5, a6, a7⟩
  · exact .inl ⟨q, g, m, c, a0, a1, a2, hk.cell2 (hs _ a1) a3, a4, a5, fun i x hx => hk.cell2 (hs _ a2) (a6 i x hx)⟩
  · exact .inr (.inl ⟨q, g, m, c, rs, a0, a1, a2, hk.cell2 (hs _ a1) a3, a4, a5, a6, fun i r hr => ⟨hk.cell2 (hs _ a2) (a7 i r hr).1, hk.cell2 (hs _ a2) (a7 i r hr).2⟩, a8⟩)
  · exact .inr (.inr ⟨q, g, c, ws, a0, a1, a2, a3, a4, hk.cell2 (hs _ a1) a5, a6.kept hk (by intro b hb; simp at hb; subst hb; exact hs _ a2), a7⟩)

/-- The numbers of parts: each part's numbers behind its key. -/
def nums (ps : List (Nat × List Nat)) : List Nat := ps.flatMap fun p => p.2.map (p.1 * 65536 + ·)
theorem nums_drop {ps : List (Nat × List Nat)} {i : Nat} {p : Nat × List Nat} (h : ps[i]? = some p) : nums (ps.drop i) = p.2.map (p.1 * 65536 + ·) ++ nums (ps.drop (i + 1)) := by
  obtain ⟨hi, rfl⟩ := List.getElem?_eq_some_iff.1 h
  unfold nums
  rw [List.drop_eq_getElem_cons hi, List.flatMap_cons]

theorem nums_at {ps : List (Nat × List Nat)} {i k : Nat} {ls : List Nat} (h : ps[i]? = some (k, ls)) : nums (ps.drop i) = ls.map (k * 65536 + ·) ++ nums (ps.drop (i + 1)) := by
  have e := nums_drop h
  dsimp only at e
  exact e

/-- The set that lies at p tells the parts ps, all its blocks below H. -/
structure Whole (w : World) (H p : Nat) (ps : List (Nat × List Nat)) : Prop where
  h0 : ∃ G c, w.cell? ⟨p, 0, none⟩ = some (.slice G ps.length c)
  hp : p < H
  len : ps.length ≤ 65536
  tab : Tab w
  tabH : 0 < H
  full : ∀ x ∈ ps, x.1 < 65536 ∧ x.2 ≠ [] ∧ ∀ y ∈ x.2, y < 65536
  part : ∀ (i : Nat) (x : Nat × List Nat), ps[i]? = some x → ∃ gk ck gc cc v, w.cell? ⟨p, 0, none⟩ = some (.slice (some ⟨gk, 0, none⟩) ps.length ck) ∧ w.cell? ⟨p, 1, none⟩ = some (.slice (some ⟨gc, 0, none⟩) ps.length cc) ∧
    gk < H ∧ gc < H ∧ w.cell? ⟨gk, i, none⟩ = some (.int .u16 (x.1 : Int)) ∧ w.cell? ⟨gc, i, none⟩ = some v ∧ Con w H v x.2

theorem Whole.kept {S : Nat → Prop} {w w' : World} {H p : Nat} {ps : List (Nat × List Nat)} (h : Whole w H p ps) (hk : Kept S w w') (hs : ∀ b, b < H → ¬ S b) : Whole w' H p ps where
  h0 := by obtain ⟨G, c, h0⟩ := h.h0; exact ⟨G, c, hk.cell2 (hs _ h.hp) h0⟩
  hp := h.hp
  len := h.len
  tab := fun i hi => hk.cell2 (hs _ h.tabH) (h.tab i hi)
  tabH := h.tabH
  full := h.full
  part := fun i x hx => by
    obtain ⟨gk, ck, gc, cc, v, a1, a2, a3, a4, a5, a6, a7⟩ := h.part i x hx
    exact ⟨gk, ck, gc, cc, v, hk.cell2 (hs _ h.hp) a1, hk.cell2 (hs _ h.hp) a2, a3, a4, hk.cell2 (hs _ a3) a5, hk.cell2 (hs _ a4) a6, a7.kept hk hs⟩

/-- The iterator of a container stands ready, l left. -/
def Low (w : World) (H I : Nat) (cs : List Value) (l : List Nat) : Prop :=
  (cs[2]? = some (.iface 127 (.pointer (some ⟨I, 4, none⟩))) ∧ LowS w H cs l) ∨
  (cs[2]? = some (.iface 128 (.pointer (some ⟨I, 6, none⟩))) ∧ LowR w H cs l) ∨
  (cs[2]? = some (.iface 130 (.pointer (some ⟨I, 9, none⟩))) ∧ LowB w H cs l)

/-- The iterator of a set stands ready, l left. -/
structure It (w : World) (H I p : Nat) (ps : List (Nat × List Nat)) (cs : List Value) (l : List Nat) : Prop where
  len : cs.length = 11
  blk : Blk w I IIty cs
  set : cs[3]? = some (.pointer (some ⟨p, 0, none⟩))
  at_ : ∃ pos : Nat, cs[0]? = some (.int .i64 (pos : Int)) ∧ pos ≤ ps.length ∧ ((pos = ps.length ∧ l = []) ∨ ∃ k ls low, ps[pos]? = some (k, ls) ∧ cs[1]? = some (.int .u32 ((k * 65536 : Nat) : Int)) ∧ low ≠ [] ∧ (∀ y ∈ low, y < 65536) ∧ Low w H I cs low ∧ l = low.map (k * 65536 + ·) ++ nums (ps.drop (pos + 1)))
theorem Low.kept {S : Nat → Prop} {w w' : World} {H I : Nat} {cs : List Value} {l : List Nat} (h : Low w H I cs l) (hk : Kept S w w') (hs : ∀ b, b < H → ¬ S b) : Low w' H I cs l := by
  rcases h with ⟨a, b⟩ | ⟨a, b⟩ | ⟨a, b⟩
  · exact .inl ⟨a, b.kept hk hs⟩
  · exact .inr (.inl ⟨a, b.kept hk hs⟩)
  · exact .inr (.inr ⟨a, b.kept hk hs⟩)
theorem It.kept {S : Nat → Prop} {w w' : World} {H I p : Nat} {ps : List (Nat × List Nat)} {cs : List Value} {l : List Nat} (h : It w H I p ps cs l) (hk : Kept S w w') (hs : ∀ b, b < H → ¬ S b) (hI : ¬ S I) : It w' H I p ps cs l where
  len := h.len
  blk := h.blk.kept hk hI
  set := h.set
  at_ := by
    obtain ⟨pos, a, b, h⟩ := h.at_
    refine ⟨pos, a, b, ?_⟩
    rcases h with h | ⟨k, ls, low, c1, c2, c3, c4, c5, c6⟩
    · exact .inl h
    · exact .inr ⟨k, ls, low, c1, c2, c3, c4, c5.kept hk hs, c6⟩
theorem take4 {cs cs' : List Value} (h : cs'.take 4 = cs.take 4) (i : Nat) (hi : i < 4) : cs'[i]? = cs[i]? := by
  rw [← List.getElem?_take_of_lt hi, h, List.getElem?_take_of_lt hi]
end Go.Roar
namespace Go.Proofs
open Go.RowKit Go.Roar

theorem iiInit_any (H I p pos : Nat) (ps : List (Nat × List Nat)) (w : World) (cs : List Value) (hb : Blk w I IIty cs) (hl : cs.length = 11) (c0 : cs[0]? = some (.int .i64 (pos : Int))) (c3 : cs[3]? = some (.pointer (some ⟨p, 0, none⟩)))
    (hW : Whole w H p ps) (hI : H ≤ I) (hn : pos ≤ ps.length) :
    Calls Tryz.prog 63 #[.pointer (some ⟨I, 0, none⟩)] w fun e w' => e = .returned (.tuple #[]) ∧ Kept (fun k => k = I) w w' ∧ ∃ cs', It w' H I p ps cs' (nums (ps.drop pos)) := by
  have hpI := hW.hp
  rcases Nat.lt_or_ge pos ps.length with hlt | hge
  · obtain ⟨⟨k, ls⟩, hx⟩ : ∃ x, ps[pos]? = some x := ⟨_, List.getElem?_eq_getElem hlt⟩
    obtain ⟨gk, ck, gc, cc, v, a1, a2, a3, a4, a5, a6, a7⟩ := hW.part pos _ hx
    obtain ⟨f1, f2, f3⟩ := hW.full _ (List.mem_of_getElem? hx)
    rcases a7 with ⟨q, g, m, c, rfl, b1, b2, b3, b4, b5, b6⟩ | ⟨q, g, m, c, rs, rfl, b1, b2, b3, b4, b5, b6, b7, b9, b8⟩ | ⟨q, g, c, ws, rfl, b1, b2, b3, b4, b5, b6, b7⟩
    · refine (iiInit_S I p _ _ pos k gk gc _ q g m _ w cs hb hl c0 c3 a1 a2 hlt a5 f1 a6 b3 (by omega) (by omega) (by omega)).mono ?_
      rintro e w' ⟨rfl, hk, hb'⟩
      refine ⟨rfl, hk, _, ⟨by simp [hl], hb', ?_, pos, ?_, by omega, .inr ⟨k, ls, ls, hx, ?_, f2, f3, .inl ⟨?_, g, 0, m, c, ls, ?_, ?_, b2, b4, b5, fun i x hx => hk.cell2 (by show ¬ g = I; omega) (b6 i x hx), Nat.zero_le _, rfl⟩, nums_at hx⟩⟩⟩
      all_goals first | (simp [hl]; done) | (simp; first | exact c0 | exact c3)
    · refine (iiInit_R I p _ _ pos k gk gc _ q w cs hb hl c0 c3 a1 a2 hlt a5 f1 a6 (by omega) (by omega)).mono ?_
      rintro e w' ⟨rfl, hk, hb'⟩
      refine ⟨rfl, hk, _, ⟨by simp [hl], hb', ?_, pos, ?_, by omega, .inr ⟨k, ls, ls, hx, ?_, f2, f3, .inr (.inl ⟨?_, q, g, 0, 0, m, c, rs, ?_, ?_, ?_, b1, b2, hk.cell2 (by show ¬ q = I; omega) b3, b4, b5, b6, fun i r hr => ⟨hk.cell2 (by show ¬ g = I; omega) (b7 i r hr).1, hk.cell2 (by show ¬ g = I; omega) (b7 i r hr).2⟩, b9, ?_⟩), nums_at hx⟩⟩⟩
      case refine_8 =>
        rcases rs with _ | ⟨r, rs⟩
        · exact .inl ⟨by simpa using b4, by dsimp only at b8; rw [b8]; rfl⟩
        · exact .inr ⟨r, rfl, Nat.zero_le _, by dsimp only at b8; rw [b8, ivNums_cons]; simp⟩
      all_goals first | (simp [hl]; done) | (simp; first | exact c0 | exact c3)
    · refine (iiInit_B I p _ _ pos k gk gc _ q g c ws w cs hb hl c0 c3 a1 a2 hlt a5 f1 a6 b3 b4 hW.tab b5 b6 (by omega) (by have := hW.tabH; omega) (by omega) (by omega) (by omega)).mono ?_
      rintro e w' ⟨rfl, hk, hb'⟩
      refine ⟨rfl, hk, _, ⟨by simp [hl], hb', ?_, pos, ?_, by omega, .inr ⟨k, ls, ls, hx, ?_, f2, f3, .inr (.inr ⟨?_, q, g, c, ws, 0, ?_, ?_, by omega, b1, b2, b3, b4, hk.cell2 (by show ¬ q = I; omega) b5, b6.kept hk (by intro b hb; simp at hb; subst hb; show ¬ b = I; omega), b7⟩), nums_at hx⟩⟩⟩
      all_goals first | (simp [hl]; done) | (simp; first | exact c0 | exact c3)
  · obtain rfl : pos = ps.length := by omega
    obtain ⟨G, c, h0⟩ := hW.h0
    refine (iiInit_end I p _ c _ G w cs hb c0 c3 h0 hge).mono ?_
    rintro e w' ⟨rfl, hk⟩
    refine ⟨rfl, hk.mono (fun _ _ => False.elim), cs, ⟨hl, hb.kept hk id, c3, _, c0, Nat.le_refl _, .inl ⟨rfl, ?_⟩⟩⟩
    simp [nums]

set_option maxRecDepth 100000 in
set_option maxHeartbeats 1000000 in
theorem iiHas_any (H I p : Nat) (ps : List (Nat × List Nat)) (w : World) (cs : List Value) (l : List Nat) (h : It w H I p ps cs l) (hW : Whole w H p ps) :
    Calls Tryz.prog 250 #[.pointer (some ⟨I, 0, none⟩)] w fun e w' => e = .returned (.bool (decide (l ≠ []))) ∧ Mild w w' := by
  obtain ⟨G, c, h0⟩ := hW.h0
  obtain ⟨pos, a0, a1, a2⟩ := h.at_
  have f0 := (h.blk.cell 0).trans a0
  have f3 := (h.blk.cell 3).trans h.set
  have e : decide (pos < ps.length) = decide (l ≠ []) := by
    rcases a2 with ⟨rfl, rfl⟩ | ⟨k, ls, low, c1, c2, c3, c4, c5, rfl⟩
    · simp
    · have := (List.getElem?_eq_some_iff.1 c1).1
      simp [c3, this]
  rw [← e]
  clear e a2 h hW
  go_enter Tryz.func250, Tryz.ntmps250
  go_wp2
  go_quiet (first | (go_at_call 71; exact Calls.quiet_of_same (qs (raSize_any p _ ps.length c _ (by exact h0)))))
  go_wp2
  go_ret
  exact ⟨by simp, (Kept.refl _ _).drewN _⟩

theorem ahead_sinext (a : Addr) (w : World) : (nilAhead 318 127 (.pointer (some a)) "loop.example/pub-g03248/pub/roaring.next").run Tryz.prog w = .ok (some false) w := by kernel_rfl
theorem method_sinext (a : Addr) (w : World) : (method 318 127 (.pointer (some a)) "loop.example/pub-g03248/pub/roaring.next").run Tryz.prog w = .ok (308, .pointer (some a)) w := by kernel_rfl
theorem ahead_sihas (a : Addr) (w : World) : (nilAhead 318 127 (.pointer (some a)) "loop.example/pub-g03248/pub/roaring.hasNext").run Tryz.prog w = .ok (some false) w := by kernel_rfl
theorem method_sihas (a : Addr) (w : World) : (method 318 127 (.pointer (some a)) "loop.example/pub-g03248/pub/roaring.hasNext").run Tryz.prog w = .ok (307, .pointer (some a)) w := by kernel_rfl

set_option maxRecDepth 100000 in
set_option maxHeartbeats 2000000 in
theorem iiNext_S (H I p pos k x : Nat) (ps : List (Nat × List Nat)) (ls low : List Nat) (w : World) (cs : List Value) (hb : Blk w I IIty cs) (hl : cs.length = 11) (c0 : cs[0]? = some (.int .i64 (pos : Int))) (c1 : cs[1]? = some (.int .u32 ((k * 65536 : Nat) : Int)))
    (c2 : cs[2]? = some (.iface 127 (.pointer (some ⟨I, 4, none⟩)))) (c3 : cs[3]? = some (.pointer (some ⟨p, 0, none⟩))) (hx : ps[pos]? = some (k, ls)) (hk : k < 65536) (hx16 : x < 65536) (hlow : ∀ y ∈ low, y < 65536)
    (hL : LowS w H cs (x :: low)) (hW : Whole w H p ps) (hI : H ≤ I) :
    Calls Tryz.prog 251 #[.pointer (some ⟨I, 0, none⟩)] w fun e w' => e = .returned (.int .u32 ((k * 65536 + x : Nat) : Int)) ∧ Kept (fun k => k = I) w w' ∧ ∃ cs', It w' H I p ps cs' (low.map (k * 65536 + ·) ++ nums (ps.drop (pos + 1))) := by
  have hpos : pos < ps.length := (List.getElem?_eq_some_iff.1 hx).1
  have hlen := hW.len
  have f1 := (hb.drew.cell 1).trans c1
  have f2 := (hb.drew.cell 2).trans c2
  have n1 := ahead_sinext ⟨I, 4, none⟩
  have n2 := method_sinext ⟨I, 4, none⟩
  have n3 := ahead_sihas ⟨I, 4, none⟩
  have n4 := method_sihas ⟨I, 4, none⟩
  have hT := hW.tab
  have C1 := Lib.hid (lowS_next I H x cs low w.drew hb.drew hI (hL.kept (S := fun _ => False) (Kept.refl _ w).drew (fun _ _ => id)))
  have ow := u32_or16 (x : Int) ((k * 65536 : Nat) : Int) (by omega) (by omega) (by omega) (by omega) (by omega)
  have ov : bits .or .u32 (x : Int) ((k * 65536 : Nat) : Int) = ((k * 65536 + x : Nat) : Int) := by rw [ow]; omega
  have u1 : IntKind.u32.wrap (x : Int) = (x : Int) := IntWalk.u32_in _ (by omega)
  have HW := Lib.hid hW
  have HL := Lib.hid hlow
  have HX := Lib.hid hx
  clear ow hT hL hW hb hlow hx
  generalize hka : k * 65536 = ka at *
  have HK := Lib.hid hka
  clear hka
  go_enter Tryz.func251, Tryz.ntmps251
  go_wp2
  go_region_held3 (fun w' => w'.cell? ⟨I, 2, none⟩ = some (.iface 127 (.pointer (some ⟨I, 4, none⟩))) ∧ w'.cell? ⟨I, 1, none⟩ = some (.int .u32 (ka : Int))) (first | exact ⟨f2, f1⟩ | exact ⟨(b2.cell 2).trans ((take4 t2 2 (by omega)).trans c2), (b2.cell 1).trans ((take4 t2 1 (by omega)).trans c1)⟩) (first
    | (go_at_call 308; ((with_reducible refine C1.out.mono ?_); rintro ed w2 ⟨rfl, cs2, b2, e2, t2, l2, k2⟩)))
  have kw2 : Kept (fun k => k = I) w w2 := ((Kept.refl _ w).drew).trans k2
  have d0 := (take4 t2 0 (by omega)).trans c0
  have d1 := (take4 t2 1 (by omega)).trans c1
  have d2 := (take4 t2 2 (by omega)).trans c2
  have d3 := (take4 t2 3 (by omega)).trans c3
  have g2 := (b2.cell 2).trans d2
  have C2 := Lib.hid (lowS_has I H cs2 low w2 b2 l2)
  have L2 := Lib.hid l2
  clear f1 f2 C1 l2 n1 n2 c0 c1 c2 c3
  rcases low with _ | ⟨y, low⟩
  · have hneg : decide (([] : List Nat) ≠ []) = false := by simp
    rw [hneg] at C2
    go_wp2_with (first
      | (go_at_call 307; refine C2.out.mono ?_; rintro ed w3 ⟨rfl, k3⟩; have b3 := b2.kept k3 id; have g0 := (b3.cell 0).trans d0; have gf := b3.free 0)
      | (go_at_call 63; refine (iiInit_any H I p (pos + 1) ps (w3.setCell ⟨I, 0, none⟩ (.int .i64 ((pos : Int) + 1))) (cs2.set 0 (.int .i64 ((pos : Int) + 1))) (b3.set 0 _) (by simp; omega) (by rw [List.getElem?_set_self (by omega)]; exact some_eq (int_eq (by omega))) (by rw [List.getElem?_set_ne (by omega)]; exact d3) (HW.out.kept (Kept.setCell (S := fun k => k = I) (p := ⟨I, 0, none⟩) (kw2.trans (k3.mono (fun _ _ => False.elim))) (fun _ => rfl) _) (fun b hb => by omega)) hI (by omega)).mono ?_; rintro ed w4 ⟨rfl, k4, cs4, it4⟩))
    go_ret
    refine ⟨ret_int (by omega), (Kept.setCell (S := fun k => k = I) (p := ⟨I, 0, none⟩) (kw2.trans (k3.mono (fun _ _ => False.elim))) (fun _ => rfl) _).trans k4, cs4, it4⟩
  · have hneg : decide ((y :: low) ≠ []) = true := by simp
    rw [hneg] at C2
    go_wp2_with (first
      | (go_at_call 307; refine C2.out.mono ?_; rintro ed w3 ⟨rfl, k3⟩))
    go_ret
    refine ⟨ret_int (by omega), kw2.trans (k3.mono (fun _ _ => False.elim)), cs2, ⟨by rw [e2]; exact hl, b2.kept k3 id, d3, pos, d0, by omega, .inr ⟨k, ls, y :: low, HX.out, by rw [HK.out]; exact d1, by simp, HL.out, .inl ⟨d2, L2.out.kept k3 (fun _ _ => id)⟩, by rw [HK.out]⟩⟩⟩

theorem ahead_rinext (a : Addr) (w : World) : (nilAhead 318 128 (.pointer (some a)) "loop.example/pub-g03248/pub/roaring.next").run Tryz.prog w = .ok (some false) w := by kernel_rfl
theorem method_rinext (a : Addr) (w : World) : (method 318 128 (.pointer (some a)) "loop.example/pub-g03248/pub/roaring.next").run Tryz.prog w = .ok (312, .pointer (some a)) w := by kernel_rfl
theorem ahead_rihas (a : Addr) (w : World) : (nilAhead 318 128 (.pointer (some a)) "loop.example/pub-g03248/pub/roaring.hasNext").run Tryz.prog w = .ok (some false) w := by kernel_rfl
theorem method_rihas (a : Addr) (w : World) : (method 318 128 (.pointer (some a)) "loop.example/pub-g03248/pub/roaring.hasNext").run Tryz.prog w = .ok (311, .pointer (some a)) w := by kernel_rfl

set_option maxRecDepth 100000 in
set_option maxHeartbeats 2000000 in
theorem iiNext_R (H I p pos k x : Nat) (ps : List (Nat × List Nat)) (ls low : List Nat) (w : World) (cs : List Value) (hb : Blk w I IIty cs) (hl : cs.length = 11) (c0 : cs[0]? = some (.int .i64 (pos : Int))) (c1 : cs[1]? = some (.int .u32 ((k * 65536 : Nat) : Int)))
    (c2 : cs[2]? = some (.iface 128 (.pointer (some ⟨I, 6, none⟩)))) (c3 : cs[3]? = some (.pointer (some ⟨p, 0, none⟩))) (hx : ps[pos]? = some (k, ls)) (hk : k < 65536) (hx16 : x < 65536) (hlow : ∀ y ∈ low, y < 65536)
    (hL : LowR w H cs (x :: low)) (hW : Whole w H p ps) (hI : H ≤ I) :
    Calls Tryz.prog 251 #[.pointer (some ⟨I, 0, none⟩)] w fun e w' => e = .returned (.int .u32 ((k * 65536 + x : Nat) : Int)) ∧ Kept (fun k => k = I) w w' ∧ ∃ cs', It w' H I p ps cs' (low.map (k * 65536 + ·) ++ nums (ps.drop (pos + 1))) := by
  have hpos : pos < ps.length := (List.getElem?_eq_some_iff.1 hx).1
  have hlen := hW.len
  have f1 := (hb.drew.cell 1).trans c1
  have f2 := (hb.drew.cell 2).trans c2
  have n1 := ahead_rinext ⟨I, 6, none⟩
  have n2 := method_rinext ⟨I, 6, none⟩
  have n3 := ahead_rihas ⟨I, 6, none⟩
  have n4 := method_rihas ⟨I, 6, none⟩
  have hT := hW.tab
  have C1 := Lib.hid (lowR_next I H x cs low w.drew hb.drew hI (hL.kept (S := fun _ => False) (Kept.refl _ w).drew (fun _ _ => id)))
  have ow := u32_or16 (x : Int) ((k * 65536 : Nat) : Int) (by omega) (by omega) (by omega) (by omega) (by omega)
  have ov : bits .or .u32 (x : Int) ((k * 65536 : Nat) : Int) = ((k * 65536 + x : Nat) : Int) := by rw [ow]; omega
  have u1 : IntKind.u32.wrap (x : Int) = (x : Int) := IntWalk.u32_in _ (by omega)
  have HW := Lib.hid hW
  have HL := Lib.hid hlow
  have HX := Lib.hid hx
  clear ow hT hL hW hb hlow hx
  generalize hka : k * 65536 = ka at *
  have HK := Lib.hid hka
  clear hka
  go_enter Tryz.func251, Tryz.ntmps251
  go_wp2
  go_region_held3 (fun w' => w'.cell? ⟨I, 2, none⟩ = some (.iface 128 (.pointer (some ⟨I, 6, none⟩))) ∧ w'.cell? ⟨I, 1, none⟩ = some (.int .u32 (ka : Int))) (first | exact ⟨f2, f1⟩ | exact ⟨(b2.cell 2).trans ((take4 t2 2 (by omega)).trans c2), (b2.cell 1).trans ((take4 t2 1 (by omega)).trans c1)⟩) (first
    | (go_at_call 312; ((with_reducible refine C1.out.mono ?_); rintro ed w2 ⟨rfl, cs2, b2, e2, t2, l2, k2⟩)))
  have kw2 : Kept (fun k => k = I) w w2 := ((Kept.refl _ w).drew).trans k2
  have d0 := (take4 t2 0 (by omega)).trans c0
  have d1 := (take4 t2 1 (by omega)).trans c1
  have d2 := (take4 t2 2 (by omega)).trans c2
  have d3 := (take4 t2 3 (by omega)).trans c3
  have g2 := (b2.cell 2).trans d2
  have C2 := Lib.hid (lowR_has I H cs2 low w2 b2 l2)
  have L2 := Lib.hid l2
  clear f1 f2 C1 l2 n1 n2 c0 c1 c2 c3
  rcases low with _ | ⟨y, low⟩
  · have hneg : decide (([] : List Nat) ≠ []) = false := by simp
    rw [hneg] at C2
    go_wp2_with (first
      | (go_at_call 311; refine C2.out.mono ?_; rintro ed w3 ⟨rfl, k3⟩; have b3 := b2.kept k3 id; have g0 := (b3.cell 0).trans d0; have gf := b3.free 0)
      | (go_at_call 63; refine (iiInit_any H I p (pos + 1) ps (w3.setCell ⟨I, 0, none⟩ (.int .i64 ((pos : Int) + 1))) (cs2.set 0 (.int .i64 ((pos : Int) + 1))) (b3.set 0 _) (by simp; omega) (by rw [List.getElem?_set_self (by omega)]; exact some_eq (int_eq (by omega))) (by rw [List.getElem?_set_ne (by omega)]; exact d3) (HW.out.kept (Kept.setCell (S := fun k => k = I) (p := ⟨I, 0, none⟩) (kw2.trans (k3.mono (fun _ _ => False.elim))) (fun _ => rfl) _) (fun b hb => by omega)) hI (by omega)).mono ?_; rintro ed w4 ⟨rfl, k4, cs4, it4⟩))
    go_ret
    refine ⟨ret_int (by omega), (Kept.setCell (S := fun k => k = I) (p := ⟨I, 0, none⟩) (kw2.trans (k3.mono (fun _ _ => False.elim))) (fun _ => rfl) _).trans k4, cs4, it4⟩
  · have hneg : decide ((y :: low) ≠ []) = true := by simp
    rw [hneg] at C2
    go_wp2_with (first
      | (go_at_call 311; refine C2.out.mono ?_; rintro ed w3 ⟨rfl, k3⟩))
    go_ret
    refine ⟨ret_int (by omega), kw2.trans (k3.mono (fun _ _ => False.elim)), cs2, ⟨by rw [e2]; exact hl, b2.kept k3 id, d3, pos, d0, by omega, .inr ⟨k, ls, y :: low, HX.out, by rw [HK.out]; exact d1, by simp, HL.out, .inr (.inl ⟨d2, L2.out.kept k3 (fun _ _ => id)⟩), by rw [HK.out]⟩⟩⟩

theorem ahead_binext (a : Addr) (w : World) : (nilAhead 318 130 (.pointer (some a)) "loop.example/pub-g03248/pub/roaring.next").run Tryz.prog w = .ok (some false) w := by kernel_rfl
theorem method_binext (a : Addr) (w : World) : (method 318 130 (.pointer (some a)) "loop.example/pub-g03248/pub/roaring.next").run Tryz.prog w = .ok (316, .pointer (some a)) w := by kernel_rfl
theorem ahead_bihas (a : Addr) (w : World) : (nilAhead 318 130 (.pointer (some a)) "loop.example/pub-g03248/pub/roaring.hasNext").run Tryz.prog w = .ok (some false) w := by kernel_rfl
theorem method_bihas (a : Addr) (w : World) : (method 318 130 (.pointer (some a)) "loop.example/pub-g03248/pub/roaring.hasNext").run Tryz.prog w = .ok (315, .pointer (some a)) w := by kernel_rfl

set_option maxRecDepth 100000 in
set_option maxHeartbeats 2000000 in
theorem iiNext_B (H I p pos k x : Nat) (ps : List (Nat × List Nat)) (ls low : List Nat) (w : World) (cs : List Value) (hb : Blk w I IIty cs) (hl : cs.length = 11) (c0 : cs[0]? = some (.int .i64 (pos : Int))) (c1 : cs[1]? = some (.int .u32 ((k * 65536 : Nat) : Int)))
    (c2 : cs[2]? = some (.iface 130 (.pointer (some ⟨I, 9, none⟩)))) (c3 : cs[3]? = some (.pointer (some ⟨p, 0, none⟩))) (hx : ps[pos]? = some (k, ls)) (hk : k < 65536) (hx16 : x < 65536) (hlow : ∀ y ∈ low, y < 65536)
    (hL : LowB w H cs (x :: low)) (hW : Whole w H p ps) (hI : H ≤ I) :
    Calls Tryz.prog 251 #[.pointer (some ⟨I, 0, none⟩)] w fun e w' => e = .returned (.int .u32 ((k * 65536 + x : Nat) : Int)) ∧ Kept (fun k => k = I) w w' ∧ ∃ cs', It w' H I p ps cs' (low.map (k * 65536 + ·) ++ nums (ps.drop (pos + 1))) := by
  have hpos : pos < ps.length := (List.getElem?_eq_some_iff.1 hx).1
  have hlen := hW.len
  have f1 := (hb.drew.cell 1).trans c1
  have f2 := (hb.drew.cell 2).trans c2
  have n1 := ahead_binext ⟨I, 9, none⟩
  have n2 := method_binext ⟨I, 9, none⟩
  have n3 := ahead_bihas ⟨I, 9, none⟩
  have n4 := method_bihas ⟨I, 9, none⟩
  have hT := hW.tab
  have C1 := Lib.hid (lowB_next I H x cs low w.drew hb.drew hI hT (hL.kept (S := fun _ => False) (Kept.refl _ w).drew (fun _ _ => id)))
  have ow := u32_or16 (x : Int) ((k * 65536 : Nat) : Int) (by omega) (by omega) (by omega) (by omega) (by omega)
  have ov : bits .or .u32 (x : Int) ((k * 65536 : Nat) : Int) = ((k * 65536 + x : Nat) : Int) := by rw [ow]; omega
  have u1 : IntKind.u32.wrap (x : Int) = (x : Int) := IntWalk.u32_in _ (by omega)
  have HW := Lib.hid hW
  have HL := Lib.hid hlow
  have HX := Lib.hid hx
  clear ow hT hL hW hb hlow hx
  generalize hka : k * 65536 = ka at *
  have HK := Lib.hid hka
  clear hka
  go_enter Tryz.func251, Tryz.ntmps251
  go_wp2
  go_region_held3 (fun w' => w'.cell? ⟨I, 2, none⟩ = some (.iface 130 (.pointer (some ⟨I, 9, none⟩))) ∧ w'.cell? ⟨I, 1, none⟩ = some (.int .u32 (ka : Int))) (first | exact ⟨f2, f1⟩ | exact ⟨(b2.cell 2).trans ((take4 t2 2 (by omega)).trans c2), (b2.cell 1).trans ((take4 t2 1 (by omega)).trans c1)⟩) (first
    | (go_at_call 316; ((with_reducible refine C1.out.mono ?_); rintro ed w2 ⟨rfl, cs2, b2, e2, t2, l2, k2⟩)))
  have kw2 : Kept (fun k => k = I) w w2 := ((Kept.refl _ w).drew).trans k2
  have d0 := (take4 t2 0 (by omega)).trans c0
  have d1 := (take4 t2 1 (by omega)).trans c1
  have d2 := (take4 t2 2 (by omega)).trans c2
  have d3 := (take4 t2 3 (by omega)).trans c3
  have g2 := (b2.cell 2).trans d2
  have C2 := Lib.hid (lowB_has I H cs2 low w2 b2 l2)
  have L2 := Lib.hid l2
  clear f1 f2 C1 l2 n1 n2 c0 c1 c2 c3
  rcases low with _ | ⟨y, low⟩
  · have hneg : decide (([] : List Nat) ≠ []) = false := by simp
    rw [hneg] at C2
    go_wp2_with (first
      | (go_at_call 315; refine C2.out.mono ?_; rintro ed w3 ⟨rfl, k3⟩; have b3 := b2.kept k3 id; have g0 := (b3.cell 0).trans d0; have gf := b3.free 0)
      | (go_at_call 63; refine (iiInit_any H I p (pos + 1) ps (w3.setCell ⟨I, 0, none⟩ (.int .i64 ((pos : Int) + 1))) (cs2.set 0 (.int .i64 ((pos : Int) + 1))) (b3.set 0 _) (by simp; omega) (by rw [List.getElem?_set_self (by omega)]; exact some_eq (int_eq (by omega))) (by rw [List.getElem?_set_ne (by omega)]; exact d3) (HW.out.kept (Kept.setCell (S := fun k => k = I) (p := ⟨I, 0, none⟩) (kw2.trans (k3.mono (fun _ _ => False.elim))) (fun _ => rfl) _) (fun b hb => by omega)) hI (by omega)).mono ?_; rintro ed w4 ⟨rfl, k4, cs4, it4⟩))
    go_ret
    refine ⟨ret_int (by omega), (Kept.setCell (S := fun k => k = I) (p := ⟨I, 0, none⟩) (kw2.trans (k3.mono (fun _ _ => False.elim))) (fun _ => rfl) _).trans k4, cs4, it4⟩
  · have hneg : decide ((y :: low) ≠ []) = true := by simp
    rw [hneg] at C2
    go_wp2_with (first
      | (go_at_call 315; refine C2.out.mono ?_; rintro ed w3 ⟨rfl, k3⟩))
    go_ret
    refine ⟨ret_int (by omega), kw2.trans (k3.mono (fun _ _ => False.elim)), cs2, ⟨by rw [e2]; exact hl, b2.kept k3 id, d3, pos, d0, by omega, .inr ⟨k, ls, y :: low, HX.out, by rw [HK.out]; exact d1, by simp, HL.out, .inr (.inr ⟨d2, L2.out.kept k3 (fun _ _ => id)⟩), by rw [HK.out]⟩⟩⟩

theorem iiNext_any (H I p : Nat) (ps : List (Nat × List Nat)) (x : Nat) (w : World) (cs : List Value) (l : List Nat) (h : It w H I p ps cs (x :: l)) (hW : Whole w H p ps) (hI : H ≤ I) :
    Calls Tryz.prog 251 #[.pointer (some ⟨I, 0, none⟩)] w fun e w' => e = .returned (.int .u32 (x : Int)) ∧ Kept (fun k => k = I) w w' ∧ ∃ cs', It w' H I p ps cs' l := by
  obtain ⟨pos, a0, a1, a2⟩ := h.at_
  rcases a2 with ⟨_, h0⟩ | ⟨k, ls, low, c1, c2, c3, c4, c5, c6⟩
  · simp at h0
  · have hk := (hW.full _ (List.mem_of_getElem? c1)).1
    dsimp only at hk
    rcases low with _ | ⟨y, low⟩
    · exact absurd rfl c3
    · rw [List.map_cons, List.cons_append] at c6
      simp only [List.cons.injEq] at c6
      obtain ⟨rfl, rfl⟩ := c6
      have y1 := c4 y (by simp)
      have y2 : ∀ z ∈ low, z < 65536 := fun z hz => c4 z (List.mem_cons_of_mem _ hz)
      rcases c5 with ⟨d, L⟩ | ⟨d, L⟩ | ⟨d, L⟩
      · exact iiNext_S H I p pos k y ps ls low w cs h.blk h.len a0 c2 d h.set c1 hk y1 y2 L hW hI
      · exact iiNext_R H I p pos k y ps ls low w cs h.blk h.len a0 c2 d h.set c1 hk y1 y2 L hW hI
      · exact iiNext_B H I p pos k y ps ls low w cs h.blk h.len a0 c2 d h.set c1 hk y1 y2 L hW hI

set_option maxRecDepth 100000 in
set_option maxHeartbeats 1000000 in
theorem iiInitialize_any (H I p : Nat) (ps : List (Nat × List Nat)) (w : World) (cs : List Value) (hb : Blk w I IIty cs) (hl : cs.length = 11) (hW : Whole w H p ps) (hI : H ≤ I) :
    Calls Tryz.prog 50 #[.pointer (some ⟨I, 0, none⟩), .pointer (some ⟨p, 0, none⟩)] w fun e w' => e = .returned (.tuple #[]) ∧ Kept (fun k => k = I) w w' ∧ ∃ cs', It w' H I p ps cs' (nums ps) := by
  obtain ⟨y0, hy0⟩ : ∃ x, cs[0]? = some x := ⟨cs[0]'(by omega), List.getElem?_eq_getElem _⟩
  obtain ⟨y3, hy3⟩ : ∃ x, cs[3]? = some x := ⟨cs[3]'(by omega), List.getElem?_eq_getElem _⟩
  have f0 := (hb.cell 0).trans hy0
  have f3 := (hb.cell 3).trans hy3
  have ff := fun o => hb.free o
  have hb' : Blk ((w.setCell ⟨I, 0, none⟩ (.int .i64 0)).setCell ⟨I, 3, none⟩ (.pointer (some ⟨p, 0, none⟩))) I IIty ((cs.set 0 (.int .i64 0)).set 3 (.pointer (some ⟨p, 0, none⟩))) := (hb.set 0 _).set 3 _
  have hk : Kept (fun k => k = I) w ((w.setCell ⟨I, 0, none⟩ (.int .i64 0)).setCell ⟨I, 3, none⟩ (.pointer (some ⟨p, 0, none⟩))) := Kept.setCell (S := fun k => k = I) (p := ⟨I, 3, none⟩) (Kept.one w I 0 _) (fun _ => rfl) _
  have C := Lib.hid (iiInit_any H I p 0 ps _ _ hb' (by simp [hl]) (by rw [List.getElem?_set_ne (by omega), List.getElem?_set_self (by omega)]; rfl) (by rw [List.getElem?_set_self (by simp; omega)]) (hW.kept hk (fun b hb => by omega)) hI (Nat.zero_le _))
  have HK := Lib.hid hk
  clear hb' hk hW hy0 hy3 hb
  go_enter Tryz.func50, Tryz.ntmps50
  go_wp2_with (first
    | (go_at_call 63; refine C.out.mono ?_; rintro ed w4 ⟨rfl, k4, cs4, it4⟩))
  go_end0
  exact ⟨rfl, HK.out.trans k4, cs4, it4⟩

set_option maxRecDepth 100000 in
set_option maxHeartbeats 1000000 in
theorem bmIter_any (p : Nat) (ps : List (Nat × List Nat)) (w : World) (hW : Whole w w.heap.size p ps) :
    Calls Tryz.prog 39 #[.pointer (some ⟨p, 0, none⟩)] w fun e w' => e = .returned (.iface 92 (.pointer (some ⟨w.heap.size, 0, none⟩))) ∧ Mild w w' ∧ ∃ cs, It w' w.heap.size w.heap.size p ps cs (nums ps) := by
  have HW := Lib.hid hW
  clear hW
  go_enter Tryz.func39, Tryz.ntmps39
  go_wp2_with (first
    | (go_at_call 50; refine (iiInitialize_any w.heap.size w.heap.size p ps _ _ (Blk.new w _ _) (by rfl) (HW.out.kept (S := fun _ => False) ((Kept.refl _ w).alloc _) (fun _ _ => id)) (Nat.le_refl _)).mono ?_; rintro ed w4 ⟨rfl, k4, cs4, it4⟩))
  go_ret
  exact ⟨rfl, Kept.then ((Kept.refl _ w).alloc _) k4 (fun k hk h => by omega), cs4, it4⟩
end Go.Proofs
