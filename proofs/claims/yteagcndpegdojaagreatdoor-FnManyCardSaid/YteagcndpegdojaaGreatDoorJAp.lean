/-
  roaringArray.appendContainer, appendCopy, appendCopyMany.
  roaringArray.appendCopyMany: containers of another set, copied behind those of this one.
-/
import Derived.Test.YteagcndpegdojaaGreatDoorKCl
import Derived.Test.YteagcndpegdojaaGreatDoorKRop
namespace Go.Proofs
open Go.RowKit Go.Roar

set_option maxRecDepth 100000 in
set_option maxHeartbeats 4000000 in
theorem appendCont_any (p : Nat) (t : TypeId) (vk vc vw : Value) (ks : List Nat) (cs : List Value) (key : Nat) (ct : TypeId) (cv : Value) (w : World) (hlen : ks.length ≤ 65536) (h : Parts w (RAL p t vk vc vw ks cs)) :
    Calls Tryz.prog 48 #[.pointer (some ⟨p, 0, none⟩), .int .u16 (key : Int), .iface ct cv, .bool false] w fun e w' => e = .returned (.tuple #[]) ∧
      ∃ vk' vc' vw', SS w (foot (RAL p t vk vc vw ks cs)) w' (RAL p t vk' vc' vw' (ks ++ [key]) (cs ++ [.iface ct cv])) := by
  obtain ⟨iU, yu1, yu2, yu3, yu4⟩ := info_parts infoU16
  obtain ⟨iC, yc1, yc2, yc3, yc4⟩ := info_parts infoCont
  obtain ⟨iB, yb1, yb2, yb3, yb4⟩ := info_parts infoBool
  have S0 := SS.init h
  generalize foot (RAL p t vk vc vw ks cs) = F at *
  clear h
  unfold RAL at S0
  have HS0 := Lib.hid S0
  have a0 := S0.cell 0 rfl 0 rfl
  clear S0
  generalize hn : ks.length = n at *
  have Hn := Lib.hid hn
  clear hn
  go_enter Tryz.func48, Tryz.ntmps48
  go_wp2_with (first
    | (at_builtin; refine wpList_append_ss rfl (.tmp 12) (.tmp 14) 37 rfl 39 iU (.int .u16 0) 1 2 undU16s yu1 yu2 yu3 yu4 rfl (by decide) w F [B p t [vk, vc, vw, .bool false]] [O 1 74 vc n cs, O 1 4 vw n (List.replicate n (.bool false))] vk n (u16s ks) rfl (SS.alloc HS0.out _) ⟨w.heap.size, 0, none⟩ 1 1 [.int .u16 (key : Int)] rfl rfl (Blk.news (Blk.new _ _ _)) (by simp [Value.oneCell']) (by unfold maxLen; omega) (by omega) ?_; intro v1 w1 S1; obtain ⟨g1, c1, rfl, _, _⟩ := Own.shape (S1.get (A := O 1 39 v1 (n + 1) (u16s ks ++ [.int .u16 (key : Int)])) (by simp)) (by omega); have f1 := S1.cell 0 rfl 0 rfl; have f2 := S1.free 0 rfl 0; have T1 : Hid (SS w F (w1.setCell ⟨p, 0, none⟩ (.slice (some ⟨g1, 0, none⟩) (n + 1) c1)) [B p t [.slice (some ⟨g1, 0, none⟩) (n + 1) c1, vc, vw, .bool false], O 1 39 (.slice (some ⟨g1, 0, none⟩) (n + 1) c1) (n + 1) (u16s ks ++ [.int .u16 (key : Int)]), O 1 74 vc n cs, O 1 4 vw n (List.replicate n (.bool false))]) := Lib.hid (SS.store (L := []) S1 0 (.slice (some ⟨g1, 0, none⟩) (n + 1) c1)); clear S1; have f3 := T1.out.cell 0 rfl 1 rfl)
    | (at_builtin; refine wpList_append_ss rfl (.tmp 22) (.tmp 24) 66 rfl 74 iC .nilIface 1 16 undConts yc1 yc2 yc3 yc4 rfl (by decide) w F [B p t [.slice (some ⟨g1, 0, none⟩) (n + 1) c1, vc, vw, .bool false], O 1 39 (.slice (some ⟨g1, 0, none⟩) (n + 1) c1) (n + 1) (u16s ks ++ [.int .u16 (key : Int)])] [O 1 4 vw n (List.replicate n (.bool false))] vc n cs rfl (SS.alloc T1.out _) ⟨_, 0, none⟩ 1 1 [.iface ct cv] rfl rfl (new_one _ _ _ _ (by simp)) (by simp [Value.oneCell']) (by unfold maxLen; omega) (by omega) ?_; intro v2 w2 S2; obtain ⟨g2, c2, rfl, _, _⟩ := Own.shape (S2.get (A := O 1 74 v2 (n + 1) (cs ++ [.iface ct cv])) (by simp)) (by omega); have f4 := S2.cell 0 rfl 1 rfl; have f5 := S2.free 0 rfl 1; have T2 : Hid (SS w F (w2.setCell ⟨p, 1, none⟩ (.slice (some ⟨g2, 0, none⟩) (n + 1) c2)) [B p t [.slice (some ⟨g1, 0, none⟩) (n + 1) c1, .slice (some ⟨g2, 0, none⟩) (n + 1) c2, vw, .bool false], O 1 39 (.slice (some ⟨g1, 0, none⟩) (n + 1) c1) (n + 1) (u16s ks ++ [.int .u16 (key : Int)]), O 1 74 (.slice (some ⟨g2, 0, none⟩) (n + 1) c2) (n + 1) (cs ++ [.iface ct cv]), O 1 4 vw n (List.replicate n (.bool false))]) := Lib.hid (SS.store (L := []) S2 1 (.slice (some ⟨g2, 0, none⟩) (n + 1) c2)); clear S2; have f6 := T2.out.cell 0 rfl 2 rfl)
    | (at_builtin; refine wpList_append_ss rfl (.tmp 32) (.tmp 34) 67 rfl 4 iB (.bool false) 1 1 undBools yb1 yb2 yb3 yb4 rfl (by decide) w F [B p t [.slice (some ⟨g1, 0, none⟩) (n + 1) c1, .slice (some ⟨g2, 0, none⟩) (n + 1) c2, vw, .bool false], O 1 39 (.slice (some ⟨g1, 0, none⟩) (n + 1) c1) (n + 1) (u16s ks ++ [.int .u16 (key : Int)]), O 1 74 (.slice (some ⟨g2, 0, none⟩) (n + 1) c2) (n + 1) (cs ++ [.iface ct cv])] [] vw n (List.replicate n (.bool false)) rfl (SS.alloc T2.out _) ⟨_, 0, none⟩ 1 1 [.bool false] rfl rfl (new_one _ _ _ _ (by simp)) (by simp [Value.oneCell']) (by unfold maxLen; omega) (by omega) ?_; intro v3 w3 S3; obtain ⟨g3, c3, rfl, _, _⟩ := Own.shape (S3.get (A := O 1 4 v3 (n + 1) (List.replicate n (.bool false) ++ [.bool false])) (by simp)) (by omega); have f7 := S3.cell 0 rfl 2 rfl; have f8 := S3.free 0 rfl 2; have T3 := Lib.hid (SS.store (L := []) S3 2 (.slice (some ⟨g3, 0, none⟩) (n + 1) c3)); clear S3)
    | fail)
  go_end0
  refine ⟨rfl, .slice (some ⟨g1, 0, none⟩) (n + 1) c1, .slice (some ⟨g2, 0, none⟩) (n + 1) c2, .slice (some ⟨g3, 0, none⟩) (n + 1) c3, ?_⟩
  unfold RAL
  rw [show (ks ++ [key]).length = n + 1 by simp [Hn.out], show u16s (ks ++ [key]) = u16s ks ++ [.int .u16 (key : Int)] by simp [u16s], List.replicate_succ']
  exact T3.out
theorem ahead_ac_clone (a : Addr) (w : World) : (nilAhead 324 118 (.pointer (some a)) "loop.example/pub-g03248/pub/roaring.clone").run Tryz.prog w = .ok (some false) w := by kernel_rfl
theorem method_ac_clone (a : Addr) (w : World) : (method 324 118 (.pointer (some a)) "loop.example/pub-g03248/pub/roaring.clone").run Tryz.prog w = .ok (167, .pointer (some a)) w := by kernel_rfl
theorem call_ac_clone (v : Value) (w : World) : (callFunc 167 #[v]).run Tryz.prog w = .ok (.enter 167 #[v]) w := by kernel_rfl
theorem ahead_bc_clone (a : Addr) (w : World) : (nilAhead 324 93 (.pointer (some a)) "loop.example/pub-g03248/pub/roaring.clone").run Tryz.prog w = .ok (some false) w := by kernel_rfl
theorem method_bc_clone (a : Addr) (w : World) : (method 324 93 (.pointer (some a)) "loop.example/pub-g03248/pub/roaring.clone").run Tryz.prog w = .ok (180, .pointer (some a)) w := by kernel_rfl
theorem call_bc_clone (v : Value) (w : World) : (callFunc 180 #[v]).run Tryz.prog w = .ok (.enter 180 #[v]) w := by kernel_rfl
theorem ahead_rc_clone (a : Addr) (w : World) : (nilAhead 324 90 (.pointer (some a)) "loop.example/pub-g03248/pub/roaring.clone").run Tryz.prog w = .ok (some false) w := by kernel_rfl
theorem method_rc_clone (a : Addr) (w : World) : (method 324 90 (.pointer (some a)) "loop.example/pub-g03248/pub/roaring.clone").run Tryz.prog w = .ok (110, .pointer (some a)) w := by kernel_rfl
theorem call_rc_clone (v : Value) (w : World) : (callFunc 110 #[v]).run Tryz.prog w = .ok (.enter 110 #[v]) w := by kernel_rfl
/-- The method clone of a container. -/
theorem kc_clone {c : Value} {l : List Nat} {k : Nat} {L : List HA} (h : KC c l k L) : ∃ (tt : TypeId) (a : Addr) (fn : Nat), c = .iface tt (.pointer (some a)) ∧
    (∀ w, (nilAhead 324 tt (.pointer (some a)) "loop.example/pub-g03248/pub/roaring.clone").run Tryz.prog w = .ok (some false) w) ∧
    (∀ w, (method 324 tt (.pointer (some a)) "loop.example/pub-g03248/pub/roaring.clone").run Tryz.prog w = .ok (fn, .pointer (some a)) w) ∧
    (∀ (w : World), (callFunc fn #[.pointer (some a)]).run Tryz.prog w = .ok (.enter fn #[.pointer (some a)]) w) ∧
    ∀ (w : World), Parts w L → Calls Tryz.prog fn #[.pointer (some a)] w fun ed w' => ∃ t v L', ed = .returned (.iface t v) ∧ KC (.iface t v) l k L' ∧ SS w [] w' L' := by
  cases h with
  | arr p v _ hs hb h0 hn => exact ⟨_, _, _, rfl, fun w => ahead_ac_clone _ w, fun w => method_ac_clone _ w, fun w => call_ac_clone _ w, fun w hp => by
      refine (acClone_any p v l w h0 (by omega) hp).mono ?_
      rintro ed w' ⟨q, v', rfl, hS⟩
      exact ⟨_, _, _, rfl, KC.arr q v' l hs hb h0 hn, hS⟩⟩
  | bmp p g c ws _ hl hb h0 hx => exact ⟨_, _, _, rfl, fun w => ahead_bc_clone _ w, fun w => method_bc_clone _ w, fun w => call_bc_clone _ w, fun w hp => by
      refine (bcClone_any p g c ws l w hl hp).mono ?_
      rintro ed w' ⟨q, g', rfl, hS⟩
      exact ⟨_, _, _, rfl, KC.bmp q g' 1024 ws l hl hb h0 hx, hS⟩⟩
  | run p v rs _ hr h0 hx => exact ⟨_, _, _, rfl, fun w => ahead_rc_clone _ w, fun w => method_rc_clone _ w, fun w => call_rc_clone _ w, fun w hp => by
      refine (rcClone_any p v rs w hr h0 hp).mono ?_
      rintro ed w' ⟨q, v', rfl, hS⟩
      exact ⟨_, _, _, rfl, KC.run q v' rs l hr h0 hx, hS⟩⟩
theorem needsCow_any (p : Nat) (g n c i : Nat) (b : Bool) (w : World) (h0 : w.cell? ⟨p, 2, none⟩ = some (.slice (some ⟨g, 0, none⟩) n c)) (hi : i < n) (h1 : w.cell? ⟨g, i, none⟩ = some (.bool b)) :
    Calls Tryz.prog 53 #[.pointer (some ⟨p, 0, none⟩), .int .i64 (i : Int)] w fun e w' => e = .returned (.bool b) ∧ w = w' := by
  go_enter Tryz.func53, Tryz.ntmps53
  go_wp2
  go_ret
  exact ⟨rfl, rfl⟩

set_option maxRecDepth 100000 in
set_option maxHeartbeats 4000000 in
/-- One container of another set, copied behind the containers of this one. -/
theorem appendCopy_any (p : Nat) (t : TypeId) (vk vc vw : Value) (ks : List Nat) (cs : List Value) (gk ck gc cc gw cw n i key : Nat) (x : Kon) (w : World) (hlen : ks.length ≤ 65536) (h : Parts w (RAL p t vk vc vw ks cs)) (hi : i < n)
    (h1 : w.cell? ⟨gk, i, none⟩ = some (.int .u16 (key : Int))) (h2 : w.cell? ⟨gc, i, none⟩ = some x.v) (h3 : w.cell? ⟨gw, i, none⟩ = some (.bool false)) (hk : KRepK w x.v x.l x.k x.F) :
    Calls Tryz.prog 47 #[.pointer (some ⟨p, 0, none⟩), .agg #[.slice (some ⟨gk, 0, none⟩) n ck, .slice (some ⟨gc, 0, none⟩) n cc, .slice (some ⟨gw, 0, none⟩) n cw, .bool false], .int .i64 (i : Int)] w fun e w' => e = .returned (.tuple #[]) ∧
      ∃ vk' vc' vw' t4 v4 L4, KC (.iface t4 v4) x.l x.k L4 ∧ SS w (foot (RAL p t vk vc vw ks cs)) w' (L4 ++ RAL p t vk' vc' vw' (ks ++ [key]) (cs ++ [.iface t4 v4])) := by
  obtain ⟨L, hK, hP, _⟩ := hk
  obtain ⟨tt, ad, fn, hv, n1, n2, n3, hCL⟩ := kc_clone hK
  rw [hv] at h2
  have m1 : Mild w (w.alloc (.cells #[.slice (some ⟨gk, 0, none⟩) n ck, .slice (some ⟨gc, 0, none⟩) n cc, .slice (some ⟨gw, 0, none⟩) n cw, .bool false] 69)) := (Kept.refl _ _).alloc _
  have hB := Blk.new w 69 [.slice (some ⟨gk, 0, none⟩) n ck, .slice (some ⟨gc, 0, none⟩) n cc, .slice (some ⟨gw, 0, none⟩) n cw, .bool false]
  have S0 := (SS.init h).alloc (.cells #[.slice (some ⟨gk, 0, none⟩) n ck, .slice (some ⟨gc, 0, none⟩) n cc, .slice (some ⟨gw, 0, none⟩) n cw, .bool false] 69)
  have hP1 : Parts (w.alloc (.cells #[.slice (some ⟨gk, 0, none⟩) n ck, .slice (some ⟨gc, 0, none⟩) n cc, .slice (some ⟨gw, 0, none⟩) n cw, .bool false] 69)).drew L := Parts.kept (S := fun _ => False) hP m1.drew (fun _ _ => id)
  have HCL := Lib.hid (hCL _ hP1)
  have c0 := (SS.right (L := []) S0).cell 0 rfl 3 rfl
  have hB' : Blk (w.alloc (.cells #[.slice (some ⟨gk, 0, none⟩) n ck, .slice (some ⟨gc, 0, none⟩) n cc, .slice (some ⟨gw, 0, none⟩) n cw, .bool false] 69)) w.heap.size 69 [.slice (some ⟨gk, 0, none⟩) n ck, .slice (some ⟨gc, 0, none⟩) n cc, .slice (some ⟨gw, 0, none⟩) n cw, .bool false] := hB
  have d0 := hB'.cell 0
  have d1 := hB'.cell 1
  have d2 := hB'.cell 2
  simp only [List.getElem?_cons_zero, List.getElem?_cons_succ] at d0 d1 d2
  have e1 := m1.cell2 id h1
  have e2 := m1.cell2 id h2
  have e3 := m1.cell2 id h3
  have HS0 := Lib.hid S0
  have HB := Lib.hid hB'
  clear S0 hB hB' hP hP1 h hK hCL hv
  go_enter Tryz.func47, Tryz.ntmps47
  go_upto_region 3 with (first
    | (go_at_call 53; refine (needsCow_any _ gw n cw i false _ d2 hi e3).mono ?_; rintro ed w1 ⟨rfl, rfl⟩)
    | fail)
  go_region_with (first
    | (go_at_call 48; (with_reducible refine (appendCont_any p t vk vc vw ks cs key t4 v4 _ hlen S4.out.right.sep).mono ?_); rintro ed w5 ⟨rfl, vk5, vc5, vw5, hS5⟩; have S5 := Lib.hid (((S4.out.perm List.perm_append_comm).frame hS5).perm List.perm_append_comm); clear hS5)
    | ((with_reducible refine HCL.out.mono ?_); rintro ed w4 ⟨t4, v4, L4, rfl, hK4, hS4⟩; have HK4 := Lib.hid hK4; have S4 := Lib.hid (HS0.out.drew.join hS4); have m4 := hS4.mild; have b0 := m4.cell2 id d0; have b1 := m4.cell2 id d1; have b2 := m4.cell2 id e1; have b3 := m4.cell2 id e2; clear hK4 hS4 m4)
    | fail)
  all_goals
    go_wp2
    go_end0
    exact ⟨rfl, vk5, vc5, vw5, t4, v4, L4, HK4.out, S5.out⟩
end Go.Proofs

namespace Go.Roar
open Go.RowKit Go.Proofs
/-- What a container tells: its key, its numbers, its kind. -/
def kon3 (x : Kon) : Nat × List Nat × Nat := (x.key, x.l, x.k)
theorem kon3_ps {a b : List Kon} (h : a.map kon3 = b.map kon3) : psOf a = psOf b := by
  have := congrArg (List.map fun z : Nat × List Nat × Nat => (z.1, z.2.1)) h
  simpa [psOf, kon3, List.map_map, Function.comp_def] using this
theorem kon3_kinds {a b : List Kon} (h : a.map kon3 = b.map kon3) : a.map (·.k) = b.map (·.k) := by
  have := congrArg (List.map fun z : Nat × List Nat × Nat => z.2.2) h
  simpa [kon3, List.map_map, Function.comp_def] using this
/-- A container joins behind the others. -/
theorem bmp_push {w0 wr w' : World} {F : List Nat} {p : Nat} {t : TypeId} {vk vc vw vk' vc' vw' : Value} {q : List Kon} {y : Kon} {L S : List HA} (hF : y.F = foot L) (hK : KC y.v y.l y.k L) (h : SS w0 F wr (BMP p t vk vc vw q ++ S))
    (h2 : SS wr (foot (RAL p t vk vc vw (q.map (·.key)) (q.map (·.v)))) w' (L ++ RAL p t vk' vc' vw' (q.map (·.key) ++ [y.key]) (q.map (·.v) ++ [y.v]))) :
    SS w0 F w' (BMP p t vk' vc' vw' (q ++ [y]) ++ S) := by
  unfold BMP at h ⊢
  rw [List.append_assoc] at h
  have h3 := h.frame h2
  rw [List.append_assoc] at h3
  have h4 := SS.shutK hK h3
  rw [← hF] at h4
  refine h4.perm ?_
  rw [List.map_append, List.map_append, List.map_singleton, List.map_singleton, KAs_append, List.append_assoc]
  refine List.perm_middle.symm.trans (List.Perm.append_left _ ?_)
  rw [List.append_assoc]
  exact List.perm_middle.symm
end Go.Roar
namespace Go.Proofs
open Go.RowKit Go.Roar
set_option maxRecDepth 100000 in
set_option maxHeartbeats 4000000 in
theorem appendMany_any (p p1 : Nat) (t t1 : TypeId) (vk vc vw vk1 vc1 vw1 : Value) (q0 q1 : List Kon) (s : Nat) (w : World) (hs : s ≤ q1.length) (h1 : q1.length ≤ 65536) (h0 : q0.length + q1.length ≤ 65536 + s)
    (h : Parts w (BMP p t vk vc vw q0 ++ BMP p1 t1 vk1 vc1 vw1 q1)) :
    Calls Tryz.prog 49 #[.pointer (some ⟨p, 0, none⟩), .agg #[vk1, vc1, vw1, .bool false], .int .i64 (s : Int), .int .i64 (q1.length : Int)] w fun e w' => e = .returned (.tuple #[]) ∧
      ∃ vk' vc' vw' q', SS w (foot (BMP p t vk vc vw q0 ++ BMP p1 t1 vk1 vc1 vw1 q1)) w' (BMP p t vk' vc' vw' q' ++ BMP p1 t1 vk1 vc1 vw1 q1) ∧ q'.map kon3 = q0.map kon3 ++ (q1.drop s).map kon3 := by
  have hra := RA.of (Parts.left (Parts.right h))
  obtain ⟨Gk, ck, hvk, hgk⟩ := hra.keys.sliceOf
  obtain ⟨Gc, cc, hvc, hgc⟩ := hra.conts.sliceOf
  obtain ⟨Gw, cw, hvw, hgw⟩ := hra.cows.sliceOf
  rw [List.length_map] at hvk hvc hvw hgk hgc hgw
  have S0 : SS w (foot (BMP p t vk vc vw q0 ++ BMP p1 t1 vk1 vc1 vw1 q1)) (w.alloc (.cells #[vk1, vc1, vw1, .bool false] 69)) (BMP p t vk vc vw q0 ++ (BMP p1 t1 vk1 vc1 vw1 q1 ++ [B w.heap.size 69 [vk1, vc1, vw1, .bool false]])) := by
    refine ((SS.init h).new 69 [vk1, vc1, vw1, .bool false]).perm ?_
    rw [← List.append_assoc]
    exact List.perm_append_comm (l₁ := [B w.heap.size 69 [vk1, vc1, vw1, .bool false]])
  have HS0 := Lib.hid S0
  generalize foot (BMP p t vk vc vw q0 ++ BMP p1 t1 vk1 vc1 vw1 q1) = F at *
  have hgk2 : 0 < q1.length → ∃ g, Gk = some ⟨g, 0, none⟩ := fun h => by obtain ⟨g, e, _⟩ := hgk h; exact ⟨g, e⟩
  have hgc2 : 0 < q1.length → ∃ g, Gc = some ⟨g, 0, none⟩ := fun h => by obtain ⟨g, e, _⟩ := hgc h; exact ⟨g, e⟩
  have hgw2 : 0 < q1.length → ∃ g, Gw = some ⟨g, 0, none⟩ := fun h => by obtain ⟨g, e, _⟩ := hgw h; exact ⟨g, e⟩
  subst hvk hvc hvw
  clear hra hgk hgc hgw h S0
  have hbnd : ∀ k : Nat, k ≤ q1.length → q0.length + (k - s) ≤ 65536 + 0 := fun k hk => by omega
  generalize hn : q1.length = n at *
  have Hn := Lib.hid hn
  clear hn
  go_enter Tryz.func49, Tryz.ntmps49
  go_wp2_with fail
  generalize (w.alloc (Obj.cells #[Value.slice Gk n ck, Value.slice Gc n cc, Value.slice Gw n cw, Value.bool false] 69)) = W0 at *
  generalize w.heap.size = H at *
  go_loopw [8] (fun i wr => ∃ (k : Nat) (vk vc vw : Value) (q : List Kon), i = .int .i64 (k : Int) ∧ s ≤ k ∧ k ≤ n ∧ Hid (SS w F wr (BMP p t vk vc vw q ++ (BMP p1 t1 (.slice Gk n ck) (.slice Gc n cc) (.slice Gw n cw) q1 ++ [B H 69 [.slice Gk n ck, .slice Gc n cc, .slice Gw n cw, .bool false]]))) ∧ Hid (q.map kon3 = q0.map kon3 ++ ((q1.take k).drop s).map kon3)) (fun i _ => n - (intOf i).toNat)
  case atStart => exact ⟨s, vk, vc, vw, q0, rfl, Nat.le_refl _, hs, HS0, Lib.hid (by rw [List.drop_take, Nat.sub_self]; simp)⟩
  case round =>
    clear HS0
    obtain ⟨k, vk, vc, vw, q, rfl, hsk, hk, HS, HQ⟩ := hrel
    by_cases hlt : k < n
    · obtain ⟨x, hx⟩ : ∃ x, q1[k]? = some x := ⟨_, List.getElem?_eq_getElem (by rw [Hn.out]; exact hlt)⟩
      obtain ⟨gk, rfl⟩ := hgk2 (by omega)
      obtain ⟨gc, rfl⟩ := hgc2 (by omega)
      obtain ⟨gw, rfl⟩ := hgw2 (by omega)
      have hP := HS.out.sep.right.left
      have hra := RA.of hP.left
      have hBH : Blk wr H 69 [.slice (some ⟨gk, 0, none⟩) n ck, .slice (some ⟨gc, 0, none⟩) n cc, .slice (some ⟨gw, 0, none⟩) n cw, .bool false] := HS.out.sep.right.right.all (B H 69 [.slice (some ⟨gk, 0, none⟩) n ck, .slice (some ⟨gc, 0, none⟩) n cc, .slice (some ⟨gw, 0, none⟩) n cw, .bool false]) (List.mem_singleton.2 rfl)
      have hK : KRepK wr x.v x.l x.k x.F := hP.right.all (KA x.v x.l x.k x.F) (List.mem_map.2 ⟨x, List.mem_of_getElem? hx, rfl⟩)
      have b1 := hra.keys
      have b2 := hra.conts
      have b3 := hra.cows
      rw [List.length_map, Hn.out] at b1 b2 b3
      have e1 := (Own.cellAt b1 (u16s_get (j := k) (x := x.key) (by rw [List.getElem?_map, hx]; rfl))).1
      have e2 := (Own.cellAt b2 (o := k) (v := x.v) (by rw [List.getElem?_map, hx]; rfl)).1
      have e3 := (Own.cellAt b3 (o := k) (v := .bool false) (by rw [List.getElem?_replicate, if_pos hlt])).1
      have hql : q.length = q0.length + (k - s) := by
        have := congrArg List.length HQ.out
        simp only [List.length_map, List.length_append, List.length_drop, List.length_take, Hn.out] at this
        omega
      have AC1 := Lib.hid (appendCopy_any p t vk vc vw (q.map (·.key)) (q.map (·.v)) gk ck gc cc gw cw n k x.key x wr (by rw [List.length_map, hql]; have := hbnd k (by omega); omega) HS.out.sep.left.left hlt e1 e2 e3 hK)
      have d0 := hBH.cell 0
      have d1 := hBH.cell 1
      have d2 := hBH.cell 2
      have d3 := hBH.cell 3
      simp only [List.getElem?_cons_zero, List.getElem?_cons_succ] at d0 d1 d2 d3
      have Hx := Lib.hid hx
      have i0 : (k : Int) < (n : Int) := by omega
      clear hP hra hBH hK b1 b2 b3 e1 e2 e3 hql hx
      go_wp2_with (first
        | (go_at_call 47; (with_reducible refine AC1.out.mono ?_); rintro ed w5 ⟨rfl, vk5, vc5, vw5, t4, v4, L4, hK4, hS5⟩; have HK4 := Lib.hid hK4; have HS5 := Lib.hid hS5; clear hK4 hS5)
        | fail)
      go_roundw
      case rel =>
        have hB := bmp_push (y := ⟨x.key, .iface t4 v4, x.l, x.k, foot L4⟩) rfl HK4.out HS.out HS5.out
        exact ⟨k + 1, vk5, vc5, vw5, _, by go_num, by omega, by omega, Lib.hid hB, Lib.hid (by
          rw [List.map_append, HQ.out, List.take_add_one, Hx.out, List.drop_append_of_le_length (by rw [List.length_take, Hn.out]; omega), List.map_append, List.append_assoc]; rfl)⟩
      case measure => simp only [intOf]; omega
    · obtain rfl : k = n := by omega
      go_wp2
      go_end0
      have hS := HS.out
      rw [← List.append_assoc] at hS
      have hq := HQ.out
      rw [List.take_of_length_le (by rw [Hn.out]; omega)] at hq
      exact ⟨rfl, vk, vc, vw, q, SS.left hS, hq⟩
end Go.Proofs
