/-
  A set as it lies in memory: its array of keys and containers, and its containers, all apart.
  rangeOfOnes: a container of one range.
  Bitmap.AddRange: a range goes to the containers of a set.
-/
import Derived.Test.YtjjijipfhnoomaaGreatDoorJSr
import Derived.Test.YtjjijipfhnoomaaGreatDoorJQpl
import Derived.Test.YtjjijipfhnoomaaGreatDoorKIns
import Derived.Test.YtjjijipfhnoomaaGreatDoorKEf
import Derived.Test.YtjjijipfhnoomaaGreatDoorJAcb
namespace Go.Roar
open Go.RowKit Go.Proofs

/-- One container of a set: its key, its value, its numbers, its kind, its blocks. -/
structure Kon where
  key : Nat
  v : Value
  l : List Nat
  k : Nat
  F : List Nat
def KAs (q : List Kon) : List HA := q.map fun x => KA x.v x.l x.k x.F
/-- The parts that the containers tell. -/
def psOf (q : List Kon) : List (Nat × List Nat) := q.map fun x => (x.key, x.l)
/-- The parts of memory of a set. -/
def BMP (p : Nat) (t : TypeId) (vk vc vw : Value) (q : List Kon) : List HA := RAL p t vk vc vw (q.map (·.key)) (q.map (·.v)) ++ KAs q

theorem Own.sliceOf {w : World} {size : Nat} {e : TypeId} {v : Value} {n : Nat} {xs : List Value} (h : Own w size e v n xs) : ∃ G c, v = .slice G n c ∧ (0 < n → ∃ g, G = some ⟨g, 0, none⟩ ∧ g ∈ blkOf v) := by
  rcases h.2 with ⟨rfl, rfl⟩ | ⟨g, k, r, rfl, _, _, _⟩
  · exact ⟨none, 0, rfl, fun h => absurd h (by omega)⟩
  · exact ⟨_, _, rfl, fun _ => ⟨g, rfl, by simp⟩⟩
theorem KAs_append (a b : List Kon) : KAs (a ++ b) = KAs a ++ KAs b := by simp [KAs]
theorem KAs_split {q : List Kon} {i : Nat} {x : Kon} (h : q[i]? = some x) : KAs q = KAs (q.take i) ++ KA x.v x.l x.k x.F :: KAs (q.drop (i + 1)) := by
  obtain ⟨hi, rfl⟩ := List.getElem?_eq_some_iff.1 h
  conv => lhs; rw [← List.take_append_drop i q, List.drop_eq_getElem_cons hi, KAs_append]
  rfl
theorem KAs_set {q : List Kon} {i : Nat} (x : Kon) (h : i < q.length) : KAs (q.set i x) = KAs (q.take i) ++ KA x.v x.l x.k x.F :: KAs (q.drop (i + 1)) := by
  rw [List.set_eq_take_append_cons_drop, if_pos h, KAs_append]
  rfl
/-- The container at place i steps forward .. -/
theorem KAs_out {q : List Kon} {i : Nat} {x : Kon} (R : List HA) (h : q[i]? = some x) : (R ++ KAs q).Perm (KA x.v x.l x.k x.F :: (R ++ (KAs (q.take i) ++ KAs (q.drop (i + 1))))) := by
  rw [KAs_split h]
  refine (List.Perm.append_left R List.perm_middle).trans ?_
  exact List.perm_middle
/-- .. and another one back. -/
theorem KAs_in {q : List Kon} {i : Nat} (x : Kon) (R : List HA) (h : i < q.length) : (KA x.v x.l x.k x.F :: (R ++ (KAs (q.take i) ++ KAs (q.drop (i + 1))))).Perm (R ++ KAs (q.set i x)) := by
  rw [KAs_set x h]
  refine List.perm_middle.symm.trans ?_
  exact List.Perm.append_left R List.perm_middle.symm
theorem KAs_ins (q : List Kon) (i : Nat) (x : Kon) (R : List HA) : (KA x.v x.l x.k x.F :: (R ++ KAs q)).Perm (R ++ KAs (insAt q i x)) := by
  unfold insAt
  rw [KAs_append]
  conv => lhs; rw [← List.take_append_drop i q, KAs_append]
  refine List.perm_middle.symm.trans ?_
  exact List.Perm.append_left R List.perm_middle.symm
theorem psOf_at {q : List Kon} {i : Nat} {x : Kon} (h : q[i]? = some x) : (psOf q)[i]? = some (x.key, x.l) := by simp [psOf, h]
theorem psOf_set (q : List Kon) (i : Nat) (x : Kon) : psOf (q.set i x) = (psOf q).set i (x.key, x.l) := by simp [psOf, List.map_set]
theorem psOf_ins (q : List Kon) (i : Nat) (x : Kon) : psOf (insAt q i x) = insAt (psOf q) i (x.key, x.l) := by simp [psOf, insAt, List.map_take, List.map_drop]
theorem psOf_keys (q : List Kon) : (psOf q).map (·.1) = q.map (·.key) := by simp [psOf]
theorem psOf_length (q : List Kon) : (psOf q).length = q.length := by simp [psOf]
theorem keys_set {q : List Kon} {i : Nat} {x y : Kon} (h : q[i]? = some x) (hk : y.key = x.key) : (q.set i y).map (·.key) = q.map (·.key) := by
  rw [List.map_set]
  apply List.ext_getElem?
  intro j
  by_cases hj : j = i
  · subst hj
    have := (List.getElem?_eq_some_iff.1 h).1
    rw [List.getElem?_set_self (by simpa using this), List.getElem?_map, h, hk]; rfl
  · rw [List.getElem?_set_ne (by omega)]
theorem vals_set (q : List Kon) (i : Nat) (y : Kon) : (q.set i y).map (·.v) = (q.map (·.v)).set i y.v := by rw [List.map_set]
/-- The values of the containers are of one cell each. -/
theorem KAs_one {w : World} {q : List Kon} (h : Parts w (KAs q)) : ∀ v ∈ q.map (·.v), v.oneCell' = true := by
  intro v hv
  obtain ⟨x, hx, rfl⟩ := List.mem_map.1 hv
  obtain ⟨L, hL, _⟩ : KRepK w x.v x.l x.k x.F := h.all (KA x.v x.l x.k x.F) (List.mem_map.2 ⟨x, hx, rfl⟩)
  obtain ⟨_, _, _, h1⟩ := hL.one
  exact h1
end Go.Roar
namespace Go.Proofs
open Go.RowKit Go.Roar
/-- setContainerAtIndex, as a step of the parts. -/
theorem setContainer_ss (p : Nat) (t : TypeId) (vk vc vw : Value) (ks : List Nat) (cs : List Value) (i : Nat) (ct : TypeId) (cv : Value) (w : World) (hi : i < ks.length) (h : Parts w (RAL p t vk vc vw ks cs)) :
    Calls Tryz.prog 36 #[.pointer (some ⟨p, 0, none⟩), .int .i64 i, .iface ct cv] w fun e w' => e = .returned (.tuple #[]) ∧ SS w (foot (RAL p t vk vc vw ks cs)) w' (RAL p t vk vc vw ks (cs.set i (.iface ct cv))) := by
  have hnd := h.nd
  simp only [RAL, foot_cons, foot_nil, B, O, List.append_nil, List.cons_append, List.nil_append] at hnd
  have h1 := (List.nodup_cons.1 hnd).1
  have h2 := (List.nodup_cons.1 hnd).2
  rw [List.nodup_append] at h2
  obtain ⟨h3, h4, h5⟩ := h2
  rw [List.nodup_append] at h4
  obtain ⟨h6, h7, h8⟩ := h4
  have d1 : p ∉ blkOf vc := fun hp => h1 (by simp [hp])
  have d2 : ∀ b ∈ blkOf vk, b ∉ blkOf vc := fun b hb hc => h5 b hb b (by simp [hc]) rfl
  have d3 : ∀ b ∈ blkOf vw, b ∉ blkOf vc := fun b hb hc => h8 b hc b hb rfl
  refine (setContainer_any p vk vc vw ks cs i ct cv w hi ⟨d1, d2, d3⟩ (RA.of h)).mono ?_
  rintro e w' ⟨rfl, hra, hk⟩
  refine ⟨rfl, ⟨⟨fun A hA => ?_, by simpa [RAL, B, O] using h.nd⟩, fun b hb => .inl (by simpa [RAL, B, O] using hb), hk.mono (fun b _ hb => by simp [RAL, B, O, hb])⟩⟩
  simp only [RAL, List.mem_cons, List.not_mem_nil, or_false] at hA
  rcases hA with rfl | rfl | rfl | rfl
  · have hb : Blk w p t [vk, vc, vw, .bool false] := h.all (B p t [vk, vc, vw, .bool false]) (by simp [RAL])
    exact hb.kept hk d1
  · exact hra.keys
  · exact hra.conts
  · exact hra.cows
end Go.Proofs

namespace Go.Proofs
open Go.RowKit Go.Roar
set_option maxRecDepth 100000 in
set_option maxHeartbeats 1000000 in
theorem rangeOfOnes_any (s t : Nat) (w : World) (hst : s ≤ t) (ht : t < 65536) :
    Calls Tryz.prog 38 #[.int .i64 (s : Int), .int .i64 (t : Int)] w fun ed w' => ∃ tt v k L, ed = .returned (.iface tt v) ∧ KC (.iface tt v) (List.range' s (t + 1 - s)) k L ∧ SS w [] w' L ∧ k = kindOf (List.range' s (t + 1 - s)) := by
  have hr : RgOK 65536 [(s, t)] := ⟨by intro r hr; simp at hr; subst hr; exact ⟨hst, ht⟩, by simp⟩
  have hn : rgNums [(s, t)] = List.range' s (t + 1 - s) := by
    rw [rgNums_cons, rgNums_nil, List.append_nil]
    dsimp only
    rw [show t - s + 1 = t + 1 - s by omega]
  have NR := Lib.hid (newRun_any s t w hst ht)
  have EF := Lib.hid (fun (p : Nat) (v : Value) (W : World) (hP : Parts W (RC p v [(s, t)])) => rcEff_any p v [(s, t)] W hr (by simp) (by simp) hP)
  rw [hn] at EF
  clear hr hn
  have i1 : ¬ (65535 : Int) < (s : Int) := by omega
  have i2 : ¬ (65535 : Int) < (t : Int) := by omega
  have q1 : IntKind.u16.wrap (s : Int) = (s : Int) := IntWalk.u16_in _ (by omega)
  have q2 : IntKind.u16.wrap (t : Int) = (t : Int) := IntWalk.u16_in _ (by omega)
  go_enter Tryz.func38, Tryz.ntmps38
  go_wp2_with (first
    | (go_at_call 48; refine NR.out.mono ?_; rintro ed w1 ⟨p, v, rfl, hS⟩; have S1 := Lib.hid hS; clear hS)
    | (go_at_call 49; refine (EF.out _ _ _ S1.out.sep).mono ?_; rintro ed w2 ⟨tt, v2, L, rfl, hK, hS2⟩; have HK := Lib.hid hK; have HS := Lib.hid hS2; clear hK hS2)
    | fail)
  go_ret
  exact ⟨tt, v2, _, L, rfl, HK.out, S1.out.on HS.out, rfl⟩
end Go.Proofs

namespace Go.Roar
open Go.RowKit Go.Proofs

/-- A container that stands at place i goes on by itself. -/
theorem bmp_open {w0 wr : World} {F : List Nat} {p : Nat} {t : TypeId} {vk vc vw : Value} {q : List Kon} {i : Nat} {x : Kon} (h : SS w0 F wr (BMP p t vk vc vw q)) (hx : q[i]? = some x) :
    ∃ L, KC x.v x.l x.k L ∧ SS w0 F wr (L ++ (RAL p t vk vc vw (q.map (·.key)) (q.map (·.v)) ++ (KAs (q.take i) ++ KAs (q.drop (i + 1))))) := by
  obtain ⟨L, h1, _, h3⟩ := (h.perm (KAs_out _ hx)).openK
  exact ⟨L, h1, h3⟩
/-- .. and is laid back, its value written where it stood. -/
theorem bmp_shut {w0 w1 w2 : World} {F : List Nat} {p : Nat} {t : TypeId} {vk vc vw : Value} {q : List Kon} {i : Nat} {x y : Kon} {L : List HA} (hx : q[i]? = some x) (hk : y.key = x.key) (hF : y.F = foot L) (hK : KC y.v y.l y.k L)
    (h : SS w0 F w1 (L ++ (RAL p t vk vc vw (q.map (·.key)) (q.map (·.v)) ++ (KAs (q.take i) ++ KAs (q.drop (i + 1))))))
    (h2 : SS w1 (foot (RAL p t vk vc vw (q.map (·.key)) (q.map (·.v)))) w2 (RAL p t vk vc vw (q.map (·.key)) ((q.map (·.v)).set i y.v))) :
    SS w0 F w2 (BMP p t vk vc vw (q.set i y)) := by
  have hi := (List.getElem?_eq_some_iff.1 hx).1
  have h3 := (SS.shutK hK h).perm List.perm_middle.symm
  have h4 := h3.frame h2
  have h5 := (h4.perm List.perm_middle)
  rw [← hF] at h5
  have h6 := h5.perm (KAs_in y _ hi)
  unfold BMP
  rw [keys_set hx hk, vals_set]
  exact h6
/-- A new container joins and is laid in at place i. -/
theorem bmp_ins {w0 wr w1 w2 : World} {F : List Nat} {p : Nat} {t : TypeId} {vk vc vw vk' vc' vw' : Value} {q : List Kon} {i : Nat} {y : Kon} {L : List HA} (hF : y.F = foot L) (hK : KC y.v y.l y.k L) (h : SS w0 F wr (BMP p t vk vc vw q)) (h1 : SS wr [] w1 L)
    (h2 : SS w1 (foot (RAL p t vk vc vw (q.map (·.key)) (q.map (·.v)))) w2 (RAL p t vk' vc' vw' (ins (q.map (·.key)) i y.key) (ins (q.map (·.v)) i y.v))) :
    SS w0 F w2 (BMP p t vk' vc' vw' (insAt q i y)) := by
  have h3 := (SS.shutK hK (h.join h1)).perm List.perm_middle.symm
  have h4 := h3.frame h2
  have h5 := (h4.perm List.perm_middle)
  rw [← hF] at h5
  have h6 := h5.perm (KAs_ins q i y _)
  have e1 : (insAt q i y).map (·.key) = ins (q.map (·.key)) i y.key := by simp [insAt, ins, List.map_take, List.map_drop]
  have e2 : (insAt q i y).map (·.v) = ins (q.map (·.v)) i y.v := by simp [insAt, ins, List.map_take, List.map_drop]
  unfold BMP
  rw [e1, e2]
  exact h6
/-- The first and the last number of the range within the container of key h. -/
def csOf (S h : Nat) : Nat := if h = S / 65536 then S % 65536 else 0
def clOf (E h : Nat) : Nat := if h = (E - 1) / 65536 then (E - 1) % 65536 else 65535
/-- Which containers are of runs behind AddRange: those that were, and new ones by their range. -/
def KAR (q0 q : List Kon) (S E : Nat) : Prop := ∀ y ∈ q, (∃ x ∈ q0, x.key = y.key ∧ (y.k = 2 ↔ x.k = 2)) ∨
  ((∀ x ∈ q0, x.key ≠ y.key) ∧ (y.k = 2 ↔ kindOf (List.range' (csOf S y.key) (clOf E y.key + 1 - csOf S y.key)) = 2) ∧ S / 65536 ≤ y.key ∧ y.key ≤ (E - 1) / 65536)
theorem KAR.refl (q : List Kon) (S E : Nat) : KAR q q S E := fun y hy => .inl ⟨y, hy, rfl, Iff.rfl⟩
theorem KAR.set {q0 q : List Kon} {S E i : Nat} {x y : Kon} (h : KAR q0 q S E) (hx : q[i]? = some x) (hy : y.key = x.key) (hk : y.k = 2 ↔ x.k = 2) : KAR q0 (q.set i y) S E := by
  intro z hz
  rcases List.mem_or_eq_of_mem_set hz with hz | rfl
  · exact h z hz
  · rcases h x (List.mem_of_getElem? hx) with ⟨u, h1, h2, h3⟩ | ⟨h1, h2, h3⟩
    · exact .inl ⟨u, h1, by rw [h2, hy], hk.trans h3⟩
    · rw [← hy] at h1 h2 h3
      exact .inr ⟨h1, hk.trans h2, h3⟩
theorem mem_insAt {q : List Kon} {i : Nat} {y z : Kon} : z ∈ insAt q i y ↔ z = y ∨ z ∈ q := by
  unfold insAt
  simp only [List.mem_append, List.mem_cons]
  have e : z ∈ q ↔ z ∈ q.take i ∨ z ∈ q.drop i := by rw [← List.mem_append, List.take_append_drop]
  rw [e]
  constructor
  · rintro (h | h | h)
    · exact .inr (.inl h)
    · exact .inl h
    · exact .inr (.inr h)
  · rintro (h | h | h)
    · exact .inr (.inl h)
    · exact .inl h
    · exact .inr (.inr h)
theorem KAR.ins {q0 q : List Kon} {S E i h : Nat} {y : Kon} (hK : KAR q0 q S E) (hkeep : ∀ x ∈ q0, ∃ z ∈ q, z.key = x.key) (hno : ∀ z ∈ q, z.key ≠ h) (hy : y.key = h) (h1 : S / 65536 ≤ h) (h2 : h ≤ (E - 1) / 65536)
    (hk : y.k = kindOf (List.range' (csOf S h) (clOf E h + 1 - csOf S h))) : KAR q0 (insAt q i y) S E := by
  intro z hz
  rcases mem_insAt.1 hz with rfl | hz
  · subst hy
    refine .inr ⟨fun x hx e => ?_, by rw [hk], h1, h2⟩
    obtain ⟨u, hu, e2⟩ := hkeep x hx
    exact hno u hu (e2.trans e)
  · exact hK z hz
theorem lb_none {q : List Kon} {h : Nat} (hs : Rising (q.map (·.key))) (hno : (q.map (·.key))[lb (q.map (·.key)) h]? ≠ some h) : ∀ z ∈ q, z.key ≠ h := by
  rintro z hz rfl
  apply hno
  obtain ⟨j, hj⟩ := List.getElem?_of_mem (List.mem_map.2 ⟨z, hz, rfl⟩)
  rw [(bsOf_at hs hj).2]
  exact hj
/-- Where AddRange stands ahead of the containers from key h on. -/
structure AR (w0 : World) (F : List Nat) (p : Nat) (t : TypeId) (m : Nat) (N : List Nat) (q0 : List Kon) (S E : Nat) (wr : World) (h : Nat) (vk vc vw : Value) (q : List Kon) : Prop where
  ss : SS w0 F wr (BMP p t vk vc vw q)
  ok : OKP (psOf q)
  few : FewAt (psOf q) m h
  nums : ∀ x, x ∈ allN (psOf q) ↔ x ∈ N ∨ (S ≤ x ∧ x < E ∧ x / 65536 < h)
  kar : KAR q0 q S E
  keep : ∀ x ∈ q0, ∃ z ∈ q, z.key = x.key
theorem cs_cl {S E h : Nat} (hSE : S < E) (h1 : S / 65536 ≤ h) (h2 : h ≤ (E - 1) / 65536) : csOf S h ≤ clOf E h ∧ clOf E h < 65536 ∧
    ∀ x, ((S ≤ x ∧ x < E ∧ x / 65536 < h) ∨ (h * 65536 + csOf S h ≤ x ∧ x < h * 65536 + (clOf E h + 1))) ↔ (S ≤ x ∧ x < E ∧ x / 65536 < h + 1) := by
  unfold csOf clOf
  refine ⟨?_, ?_, fun x => ?_⟩
  · split <;> split <;> omega
  · split <;> omega
  · split <;> split <;> omega
theorem AR.set {w0 w2 wr : World} {F : List Nat} {p : Nat} {t : TypeId} {m : Nat} {N : List Nat} {q0 : List Kon} {S E h i : Nat} {vk vc vw : Value} {q : List Kon} {x y : Kon} (a : AR w0 F p t m N q0 S E wr h vk vc vw q) (hSE : S < E) (h1 : S / 65536 ≤ h) (h2 : h ≤ (E - 1) / 65536)
    (hx : q[i]? = some x) (hk : x.key = h) (hy : y.key = x.key) (hl : y.l = addS x.l (csOf S h) (clOf E h + 1)) (h2k : y.k = 2 ↔ x.k = 2) (hS : SS w0 F w2 (BMP p t vk vc vw (q.set i y))) : AR w0 F p t m N q0 S E w2 (h + 1) vk vc vw (q.set i y) := by
  obtain ⟨c1, c2, c3⟩ := cs_cl hSE h1 h2
  have hp := psOf_at hx
  have e : psOf (q.set i y) = (psOf q).set i (x.key, addS x.l (csOf S h) (clOf E h + 1)) := by rw [psOf_set, hy, hl]
  obtain ⟨o1, o2⟩ := part_set a.ok hp (show csOf S h < clOf E h + 1 by omega) (show clOf E h + 1 ≤ 65536 by omega)
  refine ⟨hS, by rw [e]; exact o1, by rw [e]; subst hk; exact few_set a.ok a.few hp (by omega) (by omega), fun z => ?_, a.kar.set hx hy h2k, fun z hz => ?_⟩
  · rw [e, o2, a.nums, or_assoc, ← c3 z, hk]
  · obtain ⟨u, hu, e2⟩ := a.keep z hz
    by_cases hux : u = x
    · exact ⟨y, List.mem_set (List.getElem?_eq_some_iff.1 hx).1 _, by rw [hy, ← hux, e2]⟩
    · obtain ⟨j, hj⟩ := List.getElem?_of_mem hu
      have hij : i ≠ j := fun hh => hux (by subst hh; rw [hx] at hj; exact (Option.some.inj hj).symm)
      exact ⟨u, List.mem_of_getElem? (by rw [List.getElem?_set_ne hij]; exact hj), e2⟩
theorem AR.ins {w0 w2 wr : World} {F : List Nat} {p : Nat} {t : TypeId} {m : Nat} {N : List Nat} {q0 : List Kon} {S E h : Nat} {vk vc vw vk' vc' vw' : Value} {q : List Kon} {y : Kon} (a : AR w0 F p t m N q0 S E wr h vk vc vw q) (hSE : S < E) (hE : E ≤ 4294967296) (h1 : S / 65536 ≤ h) (h2 : h ≤ (E - 1) / 65536)
    (hno : (q.map (·.key))[lb (q.map (·.key)) h]? ≠ some h) (hy : y.key = h) (hl : y.l = List.range' (csOf S h) (clOf E h + 1 - csOf S h)) (hk : y.k = kindOf (List.range' (csOf S h) (clOf E h + 1 - csOf S h))) (hS : SS w0 F w2 (BMP p t vk' vc' vw' (insAt q (lb (q.map (·.key)) h) y))) :
    AR w0 F p t m N q0 S E w2 (h + 1) vk' vc' vw' (insAt q (lb (q.map (·.key)) h) y) := by
  obtain ⟨c1, c2, c3⟩ := cs_cl hSE h1 h2
  have e : psOf (insAt q (lb (q.map (·.key)) h) y) = insAt (psOf q) (lb ((psOf q).map (·.1)) h) (h, List.range' (csOf S h) (clOf E h + 1 - csOf S h)) := by rw [psOf_ins, hy, hl, psOf_keys]
  obtain ⟨o1, o2⟩ := part_ins (k := h) a.ok (by omega) (by rw [psOf_keys]; exact hno) (show csOf S h < clOf E h + 1 by omega) (show clOf E h + 1 ≤ 65536 by omega)
  refine ⟨hS, by rw [e]; exact o1, by rw [e]; exact few_ins a.few (by omega), fun z => ?_, a.kar.ins a.keep (lb_none (by have := a.ok.keys; rwa [psOf_keys] at this) hno) hy h1 h2 hk, fun z hz => ?_⟩
  · rw [e, o2, a.nums, or_assoc, ← c3 z]
  · obtain ⟨u, hu, e2⟩ := a.keep z hz
    exact ⟨u, mem_insAt.2 (.inr hu), e2⟩
end Go.Roar
namespace Go.Proofs
open Go.RowKit Go.Roar
/-- The method iaddRange of a container. -/
theorem kc_iadd {c : Value} {l : List Nat} {k : Nat} {L : List HA} (h : KC c l k L) : ∃ (tt : TypeId) (a : Addr) (fn : Nat), c = .iface tt (.pointer (some a)) ∧
    (∀ w, (nilAhead 318 tt (.pointer (some a)) "loop.example/pub-g03248/pub/roaring.iaddRange").run Tryz.prog w = .ok (some false) w) ∧
    (∀ w, (method 318 tt (.pointer (some a)) "loop.example/pub-g03248/pub/roaring.iaddRange").run Tryz.prog w = .ok (fn, .pointer (some a)) w) ∧
    (∀ (s e : Int) (w : World), (callFunc fn #[.pointer (some a), .int .i64 s, .int .i64 e]).run Tryz.prog w = .ok (.enter fn #[.pointer (some a), .int .i64 s, .int .i64 e]) w) ∧
    ∀ (s e : Nat) (w : World), s < e → e ≤ 65536 → Parts w L → Calls Tryz.prog fn #[.pointer (some a), .int .i64 (s : Int), .int .i64 (e : Int)] w fun ed w' => AddPost k l s e (foot L) w ed w' := by
  cases h with
  | arr p v _ hs hb h0 hn => exact ⟨_, _, _, rfl, fun w => ahead_ac_iaddRange _ w, fun w => method_ac_iaddRange _ w, fun s e w => call_ac_iaddRange _ s e w, fun s e w hse he hp => acKd p v l s e w hs hb h0 hn hse he hp⟩
  | bmp p g c ws _ hl hb h0 hx => exact ⟨_, _, _, rfl, fun w => ahead_bc_iaddRange _ w, fun w => method_bc_iaddRange _ w, fun s e w => call_bc_iaddRange _ s e w, fun s e w hse he hp => bcKd p g c ws l s e w hl hb h0 hx hse he hp⟩
  | run p v rs _ hr h0 hx => exact ⟨_, _, _, rfl, fun w => ahead_rc_iaddRange _ w, fun w => method_rc_iaddRange _ w, fun s e w => call_rc_iaddRange _ s e w, fun s e w hse he hp => by rw [← hx]; exact rcKd p v rs s e w hr h0 hse he hp⟩

theorem high_any (x : Nat) (w : World) (h : x < 4294967296) : Calls Tryz.prog 32 #[.int .u32 (x : Int)] w fun ed w' => ed = .returned (.int .u16 ((x / 65536 : Nat) : Int)) ∧ w = w' := by
  have q1 : IntKind.u16.wrap ((x : Int) / 65536) = ((x / 65536 : Nat) : Int) := by rw [IntWalk.u16_in _ (by omega)]; omega
  go_enter Tryz.func32, Tryz.ntmps32
  go_wp2
  go_ret
  exact ⟨rfl, rfl⟩
theorem low_any (x : Nat) (w : World) (h : x < 4294967296) : Calls Tryz.prog 33 #[.int .u32 (x : Int)] w fun ed w' => ed = .returned (.int .u16 ((x % 65536 : Nat) : Int)) ∧ w = w' := by
  have q0 : bits .and .u32 (x : Int) 65535 = ((x % 65536 : Nat) : Int) := by
    have := Go.u32_and_nat x 65535 h (by decide)
    rw [show (65535 : Nat) = 2 ^ 16 - 1 from rfl, Nat.and_two_pow_sub_one_eq_mod] at this
    exact this
  have q1 : IntKind.u16.wrap ((x % 65536 : Nat) : Int) = ((x % 65536 : Nat) : Int) := IntWalk.u16_in _ (by omega)
  go_enter Tryz.func33, Tryz.ntmps33
  go_wp2
  go_ret
  exact ⟨rfl, rfl⟩
end Go.Proofs
