/-
  roaringArray.insertNewKeyValueAt.
-/
import Derived.Test.YtjjijipfhnoomaaGreatDoorJBs
import Derived.Test.YtjjijipfhnoomaaGreatDoorJHeap
import Derived.StillTailTactics
namespace Go.Proofs
open Go.RowKit Go.Roar

/-- l with x laid in at place i. -/
def ins {α : Type} (l : List α) (i : Nat) (x : α) : List α := l.take i ++ x :: l.drop i

theorem ins_length {α : Type} (l : List α) (i : Nat) (x : α) (h : i ≤ l.length) : (ins l i x).length = l.length + 1 := by
  simp [ins]; omega

theorem u16s_ins (l : List Nat) (i x : Nat) : u16s (ins l i x) = ins (u16s l) i (.int .u16 (x : Int)) := by
  simp [u16s, ins, List.map_take, List.map_drop]

/-- What append, copy and a store make of l. -/
theorem ins_made {α : Type} (l : List α) (i : Nat) (x z : α) (r : List α) (h : i ≤ l.length) :
    (splice (l ++ [z] ++ r) (i + 1) (l.drop i)).set i x = ins l i x ++ r := by
  have hlen : (l.take i).length = i := by simp; omega
  have e1 : (l ++ [z] ++ r).take (i + 1) = l.take i ++ [(l ++ [z])[i]'(by simp; omega)] := by
    rw [List.take_append_of_le_length (by simp; omega), List.take_succ_eq_append_getElem (by simp; omega), List.take_append_of_le_length h]
  have e2 : (l ++ [z] ++ r).drop (i + 1 + (l.drop i).length) = r := by
    rw [List.drop_append_of_le_length (by simp; omega)]
    rw [List.drop_of_length_le (by simp; omega)]; simp
  unfold splice
  rw [e1, e2, List.append_assoc]
  rw [List.set_append_right _ _ (by omega), hlen, Nat.sub_self]
  simp [ins]

theorem infoU16 : (Tryz.prog.info? 57).map (fun i => (i.zero, i.size, i.bytes)) = some (some (.int .u16 0), 1, 2) := by kernel_rfl
theorem infoCont : (Tryz.prog.info? 68).map (fun i => (i.zero, i.size, i.bytes)) = some (some .nilIface, 1, 16) := by kernel_rfl
theorem infoBool : (Tryz.prog.info? 4).map (fun i => (i.zero, i.size, i.bytes)) = some (some (.bool false), 1, 1) := by kernel_rfl
theorem szU16 : (Tryz.prog.info? 57).map (·.size) = some 1 := by kernel_rfl
theorem szCont : (Tryz.prog.info? 68).map (·.size) = some 1 := by kernel_rfl
theorem szBool : (Tryz.prog.info? 4).map (·.size) = some 1 := by kernel_rfl
theorem undU16s : Tryz.prog.underlying 59 = some (.slice 57) := by kernel_rfl
theorem undConts : Tryz.prog.underlying 60 = some (.slice 68) := by kernel_rfl
theorem undBools : Tryz.prog.underlying 61 = some (.slice 4) := by kernel_rfl

/-- The parts of a roaringArray (or a Bitmap): its block, its keys, its containers, its marks. -/
def RAL (p : Nat) (t : TypeId) (vk vc vw : Value) (ks : List Nat) (cs : List Value) : List HA :=
  [B p t [vk, vc, vw, .bool false], O 1 57 vk ks.length (u16s ks), O 1 68 vc ks.length cs, O 1 4 vw ks.length (List.replicate ks.length (.bool false))]

theorem RA.of {w : World} {p : Nat} {t : TypeId} {vk vc vw : Value} {ks : List Nat} {cs : List Value} (h : Parts w (RAL p t vk vc vw ks cs)) : RA w p vk vc vw ks cs :=
  ⟨⟨t, h.all (B p t _) (by simp [RAL])⟩, h.all (O 1 57 vk ks.length (u16s ks)) (by simp [RAL]), h.all (O 1 68 vc ks.length cs) (by simp [RAL]), h.all (O 1 4 vw ks.length _) (by simp [RAL])⟩

set_option maxRecDepth 100000 in
set_option maxHeartbeats 1000000 in
theorem insert_any (p : Nat) (t : TypeId) (vk vc vw : Value) (ks : List Nat) (cs : List Value) (i key : Nat) (ct : TypeId) (cv : Value) (w : World) (hi : i ≤ ks.length) (hlen : ks.length < 65536) (hone : ∀ v ∈ cs, v.oneCell' = true)
    (h : Parts w (RAL p t vk vc vw ks cs)) :
    Calls Tryz.prog 37 #[.pointer (some ⟨p, 0, none⟩), .int .i64 i, .int .u16 key, .iface ct cv] w fun e w' => e = .returned (.tuple #[]) ∧
      ∃ vk' vc' vw', SS w (foot (RAL p t vk vc vw ks cs)) w' (RAL p t vk' vc' vw' (ins ks i key) (ins cs i (.iface ct cv))) := by
  obtain ⟨iU, u1, u2, u3, u4⟩ := info_parts infoU16
  obtain ⟨iC, c1, c2, c3, c4⟩ := info_parts infoCont
  obtain ⟨iB, b1, b2, b3, b4⟩ := info_parts infoBool
  have S0 := SS.init h
  have hcl : cs.length = ks.length := by simpa using (RA.of h).conts.len
  generalize hF : foot (RAL p t vk vc vw ks cs) = F at *
  clear hF h
  unfold RAL at S0
  have k0 := S0.at0
  have Hcl := Lib.hid hcl
  have Hone := Lib.hid hone
  clear hone
  clear hcl
  generalize hn : ks.length = n at *
  have Hn := Lib.hid hn
  clear hn
  have q1 : IntKind.i64.wrap ((i : Int) + 1) = (i : Int) + 1 := IntWalk.i64_in _ (by omega)
  have q2 : (0 : Int) ≤ (i : Int) + 1 := by omega
  have q3 : ((i : Int) + 1).toNat = i + 1 := by omega
  have q4 : (i : Int) + 1 ≤ ((n + 1 : Nat) : Int) := by omega
  have q5 : (i : Int) ≤ ((n + 1 : Nat) : Int) := by omega
  go_enter Tryz.func37, Tryz.ntmps37
  go_wp2_with (first
    | (at_builtin; refine wpList_append_ss rfl (.tmp 12) (.tmp 13) 59 rfl 57 iU (.int .u16 0) 1 2 undU16s u1 u2 u3 u4 rfl (by decide) w F [B p t [vk, vc, vw, Value.bool false]] [O 1 68 vc n cs, O 1 4 vw n (List.replicate n (Value.bool false))] vk n (u16s ks) rfl (S0.alloc _) ⟨w.heap.size, 0, none⟩ 1 1 [Value.int IntKind.u16 (0 : Int)] rfl rfl (new_one _ _ _ _ rfl) (one_one rfl) (by unfold maxLen; omega) (by omega) ?_; intro v1 w1 S1; obtain ⟨g1, m1, rfl, l1, l1'⟩ := Own.shape (S1.get (A := O 1 57 v1 (n + 1) (u16s ks ++ [Value.int IntKind.u16 (0 : Int)])) (by simp)) (by omega); have f10 := S1.at0; have f11 := S1.at1; have f12 := S1.at2; have f1f := fun o => S1.free0 o; have S2 : SS w F (w1.setCell ⟨p, 0, none⟩ (.slice (some ⟨g1, 0, none⟩) (n + 1) m1)) [B p t [.slice (some ⟨g1, 0, none⟩) (n + 1) m1, vc, vw, Value.bool false], O 1 57 (.slice (some ⟨g1, 0, none⟩) (n + 1) m1) (n + 1) (u16s ks ++ [Value.int IntKind.u16 (0 : Int)]), O 1 68 vc n cs, O 1 4 vw n (List.replicate n (Value.bool false))] := S1.store (L := []) 0 _)
    | (at_builtin; refine wpList_append_ss rfl (.tmp 21) (.tmp 22) 60 rfl 68 iC .nilIface 1 16 undConts c1 c2 c3 c4 rfl (by decide) w F [B p t [.slice (some ⟨g1, 0, none⟩) (n + 1) m1, vc, vw, Value.bool false], O 1 57 (.slice (some ⟨g1, 0, none⟩) (n + 1) m1) (n + 1) (u16s ks ++ [Value.int IntKind.u16 (0 : Int)])] [O 1 4 vw n (List.replicate n (Value.bool false))] vc n cs rfl (S2.alloc _) ⟨w1.heap.size, 0, none⟩ 1 1 [Value.nilIface] rfl rfl (new_one _ _ _ _ (by simp)) (one_one rfl) (by unfold maxLen; omega) (by omega) ?_; clear S1 f10 f11 f12 f1f S0 k0 l1'; intro v3 w3 S3; obtain ⟨g3, m3, rfl, l3, l3'⟩ := Own.shape (S3.get (A := O 1 68 v3 (n + 1) (cs ++ [Value.nilIface])) (by simp)) (by omega); have f30 := S3.at0; have f31 := S3.at1; have f32 := S3.at2; have f3f := fun o => S3.free0 o; have S4 : SS w F (w3.setCell ⟨p, 1, none⟩ (.slice (some ⟨g3, 0, none⟩) (n + 1) m3)) [B p t [.slice (some ⟨g1, 0, none⟩) (n + 1) m1, .slice (some ⟨g3, 0, none⟩) (n + 1) m3, vw, Value.bool false], O 1 57 (.slice (some ⟨g1, 0, none⟩) (n + 1) m1) (n + 1) (u16s ks ++ [Value.int IntKind.u16 (0 : Int)]), O 1 68 (.slice (some ⟨g3, 0, none⟩) (n + 1) m3) (n + 1) (cs ++ [Value.nilIface]), O 1 4 vw n (List.replicate n (Value.bool false))] := S3.store (L := []) 1 _; clear S2 S3; have s1 := fun (W : World) => run_slice_from (P := Tryz.prog) W undU16s szU16 g1 0 (n + 1) m1 (i + 1) .i64 ((i : Int) + 1) (by omega) (by omega); have s2 := fun (W : World) => run_slice_from (P := Tryz.prog) W undU16s szU16 g1 0 (n + 1) m1 i .i64 (i : Int) rfl (by omega); have s3 := fun (W : World) => run_slice_from (P := Tryz.prog) W undConts szCont g3 0 (n + 1) m3 (i + 1) .i64 ((i : Int) + 1) (by omega) (by omega); have s4 := fun (W : World) => run_slice_from (P := Tryz.prog) W undConts szCont g3 0 (n + 1) m3 i .i64 (i : Int) rfl (by omega))
    | (refine wpList_copy_ss rfl (.tmp 32) (.tmp 38) 59 59 rfl 57 1 undU16s szU16 w F [B p t [.slice (some ⟨g1, 0, none⟩) (n + 1) m1, .slice (some ⟨g3, 0, none⟩) (n + 1) m3, vw, Value.bool false]] [O 1 68 (.slice (some ⟨g3, 0, none⟩) (n + 1) m3) (n + 1) (cs ++ [Value.nilIface]), O 1 4 vw n (List.replicate n (Value.bool false))] g1 (n + 1) m1 (u16s ks ++ [Value.int IntKind.u16 (0 : Int)]) S4.drew (some (tlA g1 0 (i + 1) m1 1)) (some (tlA g1 0 i m1 1)) (n - i) (m1 - (i + 1)) (n + 1 - i) (m1 - i) ?_ ?_ (i + 1) (n - i) ((u16s ks).drop i) ?_ ?_ ?_ ?_ ?_ ?_; rfl; rfl; exact (Nat.min_eq_right (by omega)).symm; simp [Hn.out]; exact (fun h0 => ⟨tl_some1 (by omega), _, rfl, Own.src (S4.drew.get (A := O 1 57 (.slice (some ⟨g1, 0, none⟩) (n + 1) m1) (n + 1) (u16s ks ++ [Value.int IntKind.u16 (0 : Int)])) (by simp)) i 1 (by omega) _ (drop_src _)⟩); (simp [Hn.out]; omega); exact (fun v hv => u16s_one ks v (List.mem_of_mem_drop hv)); intro w5 S5; have f50 := S5.at0; have f51 := S5.at1; have f52 := S5.at2; clear S4 f30 f31 f32 s1 s2)
    | (refine wpList_copy_ss rfl (.tmp 46) (.tmp 52) 60 60 rfl 68 1 undConts szCont w F [B p t [.slice (some ⟨g1, 0, none⟩) (n + 1) m1, .slice (some ⟨g3, 0, none⟩) (n + 1) m3, vw, Value.bool false], O 1 57 (.slice (some ⟨g1, 0, none⟩) (n + 1) m1) (n + 1) (splice (u16s ks ++ [Value.int IntKind.u16 (0 : Int)]) (i + 1) ((u16s ks).drop i))] [O 1 4 vw n (List.replicate n (Value.bool false))] g3 (n + 1) m3 (cs ++ [Value.nilIface]) S5.drew (some (tlA g3 0 (i + 1) m3 1)) (some (tlA g3 0 i m3 1)) (n - i) (m3 - (i + 1)) (n + 1 - i) (m3 - i) ?_ ?_ (i + 1) (n - i) (cs.drop i) ?_ ?_ ?_ ?_ ?_ ?_; rfl; rfl; exact (Nat.min_eq_right (by omega)).symm; simp [Hcl.out]; exact (fun h0 => ⟨tl_some1 (by omega), _, rfl, Own.src (S5.drew.get (A := O 1 68 (.slice (some ⟨g3, 0, none⟩) (n + 1) m3) (n + 1) (cs ++ [Value.nilIface])) (by simp)) i 1 (by omega) _ (drop_src _)⟩); (simp [Hcl.out]; omega); exact (fun v hv => Hone.out v (List.mem_of_mem_drop hv)); intro w7 S7; have f70 := S7.at0; have f71 := S7.at1; have f72 := S7.at2; have f7f := fun o => S7.free0 o; have hnd := S7.ne; simp only [foot_cons, foot_nil, B, O, blkOf_some, List.cons_append, List.nil_append, List.nodup_cons, List.mem_cons, List.mem_append, not_or] at hnd; obtain ⟨⟨d1, d2, d3⟩, ⟨d4, d5⟩, d6⟩ := hnd; have e1 := Ne.symm d1; have e2 := Ne.symm d2; have e4 := Ne.symm d4; clear d3 d5 d6; obtain ⟨x1, hx1⟩ : ∃ x, (splice (u16s ks ++ [Value.int IntKind.u16 (0 : Int)]) (i + 1) ((u16s ks).drop i))[i]? = some x := ⟨_, List.getElem?_eq_getElem (by rw [length_splice _ _ _ (by simp [Hn.out]; omega)]; simp [Hn.out]; omega)⟩; obtain ⟨x3, hx3⟩ : ∃ x, (splice (cs ++ [Value.nilIface]) (i + 1) (cs.drop i))[i]? = some x := ⟨_, List.getElem?_eq_getElem (by rw [length_splice _ _ _ (by simp [Hcl.out]; omega)]; simp [Hcl.out]; omega)⟩; have c71 := Own.cellAt (S7.get (A := O 1 57 (.slice (some ⟨g1, 0, none⟩) (n + 1) m1) (n + 1) (splice (u16s ks ++ [Value.int IntKind.u16 (0 : Int)]) (i + 1) ((u16s ks).drop i))) (by simp)) hx1; have c73 := Own.cellAt (S7.get (A := O 1 68 (.slice (some ⟨g3, 0, none⟩) (n + 1) m3) (n + 1) (splice (cs ++ [Value.nilIface]) (i + 1) (cs.drop i))) (by simp)) hx3; have S8 := SS.storeO (L := [B p t [.slice (some ⟨g1, 0, none⟩) (n + 1) m1, .slice (some ⟨g3, 0, none⟩) (n + 1) m3, vw, Value.bool false]]) (R := [O 1 68 (.slice (some ⟨g3, 0, none⟩) (n + 1) m3) (n + 1) (splice (cs ++ [Value.nilIface]) (i + 1) (cs.drop i)), O 1 4 vw n (List.replicate n (Value.bool false))]) S7 i (by rw [length_splice _ _ _ (by simp [Hn.out]; omega)]; simp [Hn.out]; omega) (.int .u16 (key : Int)); have S9 := SS.storeO (L := [B p t [.slice (some ⟨g1, 0, none⟩) (n + 1) m1, .slice (some ⟨g3, 0, none⟩) (n + 1) m3, vw, Value.bool false], O 1 57 (.slice (some ⟨g1, 0, none⟩) (n + 1) m1) (n + 1) ((splice (u16s ks ++ [Value.int IntKind.u16 (0 : Int)]) (i + 1) ((u16s ks).drop i)).set i (Value.int IntKind.u16 (key : Int)))]) (R := [O 1 4 vw n (List.replicate n (Value.bool false))]) S8 i (by rw [length_splice _ _ _ (by simp [Hcl.out]; omega)]; simp [Hcl.out]; omega) (.iface ct cv); clear hx1 hx3 S5 S7 S8 f50 f51 f52 s3 s4)
    | (at_builtin; refine wpList_append_ss rfl (.tmp 72) (.tmp 73) 61 rfl 4 iB (Value.bool false) 1 1 undBools b1 b2 b3 b4 rfl (by decide) w F [B p t [.slice (some ⟨g1, 0, none⟩) (n + 1) m1, .slice (some ⟨g3, 0, none⟩) (n + 1) m3, vw, Value.bool false], O 1 57 (.slice (some ⟨g1, 0, none⟩) (n + 1) m1) (n + 1) ((splice (u16s ks ++ [Value.int IntKind.u16 (0 : Int)]) (i + 1) ((u16s ks).drop i)).set i (Value.int IntKind.u16 (key : Int))), O 1 68 (.slice (some ⟨g3, 0, none⟩) (n + 1) m3) (n + 1) ((splice (cs ++ [Value.nilIface]) (i + 1) (cs.drop i)).set i (Value.iface ct cv))] [] vw n (List.replicate n (Value.bool false)) rfl (S9.alloc _) ⟨w7.heap.size, 0, none⟩ 1 1 [Value.bool false] rfl rfl (new_one _ _ _ _ (by simp)) (one_one rfl) (by unfold maxLen; omega) (by omega) ?_; clear f70 f71 f72 f7f d1 d2 d4 e1 e2 e4 c71 c73; intro v10 w10 S10; obtain ⟨g10, m10, rfl, l10, l10'⟩ := Own.shape (S10.get (A := O 1 4 v10 (n + 1) (List.replicate n (Value.bool false) ++ [Value.bool false])) (by simp)) (by omega); have f100 := S10.at0; have f101 := S10.at1; have f102 := S10.at2; have f10f := fun o => S10.free0 o; have S11 : SS w F (w10.setCell ⟨p, 2, none⟩ (.slice (some ⟨g10, 0, none⟩) (n + 1) m10)) [B p t [.slice (some ⟨g1, 0, none⟩) (n + 1) m1, .slice (some ⟨g3, 0, none⟩) (n + 1) m3, .slice (some ⟨g10, 0, none⟩) (n + 1) m10, Value.bool false], O 1 57 (.slice (some ⟨g1, 0, none⟩) (n + 1) m1) (n + 1) ((splice (u16s ks ++ [Value.int IntKind.u16 (0 : Int)]) (i + 1) ((u16s ks).drop i)).set i (Value.int IntKind.u16 (key : Int))), O 1 68 (.slice (some ⟨g3, 0, none⟩) (n + 1) m3) (n + 1) ((splice (cs ++ [Value.nilIface]) (i + 1) (cs.drop i)).set i (Value.iface ct cv)), O 1 4 (.slice (some ⟨g10, 0, none⟩) (n + 1) m10) (n + 1) (List.replicate n (Value.bool false) ++ [Value.bool false])] := S10.store (L := []) 2 _; clear S9 S10; have s5 := fun (W : World) => run_slice_from (P := Tryz.prog) W undBools szBool g10 0 (n + 1) m10 (i + 1) .i64 ((i : Int) + 1) (by omega) (by omega); have s6 := fun (W : World) => run_slice_from (P := Tryz.prog) W undBools szBool g10 0 (n + 1) m10 i .i64 (i : Int) rfl (by omega))
    | (refine wpList_copy_ss rfl (.tmp 83) (.tmp 89) 61 61 rfl 4 1 undBools szBool w F [B p t [.slice (some ⟨g1, 0, none⟩) (n + 1) m1, .slice (some ⟨g3, 0, none⟩) (n + 1) m3, .slice (some ⟨g10, 0, none⟩) (n + 1) m10, Value.bool false], O 1 57 (.slice (some ⟨g1, 0, none⟩) (n + 1) m1) (n + 1) ((splice (u16s ks ++ [Value.int IntKind.u16 (0 : Int)]) (i + 1) ((u16s ks).drop i)).set i (Value.int IntKind.u16 (key : Int))), O 1 68 (.slice (some ⟨g3, 0, none⟩) (n + 1) m3) (n + 1) ((splice (cs ++ [Value.nilIface]) (i + 1) (cs.drop i)).set i (Value.iface ct cv))] [] g10 (n + 1) m10 (List.replicate n (Value.bool false) ++ [Value.bool false]) S11.drew (some (tlA g10 0 (i + 1) m10 1)) (some (tlA g10 0 i m10 1)) (n - i) (m10 - (i + 1)) (n + 1 - i) (m10 - i) ?_ ?_ (i + 1) (n - i) ((List.replicate n (Value.bool false)).drop i) ?_ ?_ ?_ ?_ ?_ ?_; rfl; rfl; exact (Nat.min_eq_right (by omega)).symm; simp; exact (fun h0 => ⟨tl_some1 (by omega), _, rfl, Own.src (S11.drew.get (A := O 1 4 (.slice (some ⟨g10, 0, none⟩) (n + 1) m10) (n + 1) (List.replicate n (Value.bool false) ++ [Value.bool false])) (by simp)) i 1 (by omega) _ (drop_src _)⟩); (simp; omega); exact (fun v hv => by have := List.mem_of_mem_drop hv; simp only [List.mem_replicate] at this; rw [this.2]; rfl); intro w12 S12; have f120 := S12.at0; have f121 := S12.at1; have f122 := S12.at2; obtain ⟨x12, hx12⟩ : ∃ x, (splice (List.replicate n (Value.bool false) ++ [Value.bool false]) (i + 1) ((List.replicate n (Value.bool false)).drop i))[i]? = some x := ⟨_, List.getElem?_eq_getElem (by rw [length_splice _ _ _ (by simp; omega)]; simp; omega)⟩; have c12 := Own.cellAt (S12.get (A := O 1 4 (.slice (some ⟨g10, 0, none⟩) (n + 1) m10) (n + 1) (splice (List.replicate n (Value.bool false) ++ [Value.bool false]) (i + 1) ((List.replicate n (Value.bool false)).drop i))) (by simp)) hx12; have S13 := SS.storeO (L := [B p t [.slice (some ⟨g1, 0, none⟩) (n + 1) m1, .slice (some ⟨g3, 0, none⟩) (n + 1) m3, .slice (some ⟨g10, 0, none⟩) (n + 1) m10, Value.bool false], O 1 57 (.slice (some ⟨g1, 0, none⟩) (n + 1) m1) (n + 1) ((splice (u16s ks ++ [Value.int IntKind.u16 (0 : Int)]) (i + 1) ((u16s ks).drop i)).set i (Value.int IntKind.u16 (key : Int))), O 1 68 (.slice (some ⟨g3, 0, none⟩) (n + 1) m3) (n + 1) ((splice (cs ++ [Value.nilIface]) (i + 1) (cs.drop i)).set i (Value.iface ct cv))]) (R := []) S12 i (by rw [length_splice _ _ _ (by simp; omega)]; simp; omega) (Value.bool false); clear hx12 S11 S12 f100 f101 f102 f10f s5 s6)
    | (refine wp_region_tail 13 (by kernel_rfl) (by decide +kernel) ?_; simp only [List.take_succ_cons, List.take_zero, List.drop_succ_cons, List.drop_zero]; repeat still_step; try (refine wpStill_nil ?_; show wpList _ _ _ _ _ _)))
  go_end0
  have hn := Hn.out
  have hc := Hcl.out
  have e1 : ((splice (u16s ks ++ [Value.int IntKind.u16 (0 : Int)]) (i + 1) ((u16s ks).drop i)).set i (Value.int IntKind.u16 (key : Int))) = u16s (ins ks i key) := by
    have := ins_made (u16s ks) i (.int .u16 (key : Int)) (.int .u16 (0 : Int)) [] (by simp [hn]; omega)
    simpa [u16s_ins] using this
  have e2 : ((splice (cs ++ [Value.nilIface]) (i + 1) (cs.drop i)).set i (Value.iface ct cv)) = ins cs i (.iface ct cv) := by
    have := ins_made cs i (.iface ct cv) .nilIface [] (by omega)
    simpa using this
  have e3 : ((splice (List.replicate n (Value.bool false) ++ [Value.bool false]) (i + 1) ((List.replicate n (Value.bool false)).drop i)).set i (Value.bool false)) = List.replicate (n + 1) (.bool false) := by
    have := ins_made (List.replicate n (Value.bool false)) i (.bool false) (.bool false) [] (by simp; omega)
    simp only [List.append_nil] at this
    rw [this]
    simp only [ins, List.take_replicate, List.drop_replicate, ← List.replicate_succ, List.replicate_append_replicate]
    congr 1; omega
  have e4 : (ins ks i key).length = n + 1 := by rw [ins_length _ _ _ (by omega), hn]
  refine ⟨rfl, .slice (some ⟨g1, 0, none⟩) (n + 1) m1, .slice (some ⟨g3, 0, none⟩) (n + 1) m3, .slice (some ⟨g10, 0, none⟩) (n + 1) m10, ?_⟩
  unfold RAL
  rw [e4, ← e1, ← e2, ← e3]
  exact S13
end Go.Proofs
