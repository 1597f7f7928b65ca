/-
  The iterator of a set: where it begins a container.
-/
import Derived.Test.YtjjijipfhnoomaaGreatDoorJSi
import Derived.Deep.QuietTactic
import Derived.BigQuiet
import Derived.Deep.DeepCutAuto
namespace Go.Proofs
open Go.RowKit Go.Roar

theorem qs {P : Program} {f : FuncId} {args : Array Value} {w : World} {v : Value} (h : Calls P f args w fun e w' => e = .returned v ∧ w = w') : Calls P f args w fun e w' => e = .returned v ∧ w' = w := h.mono (fun _ _ h => ⟨h.1, h.2.symm⟩)

theorem as_aa (v : Value) (W : World) : (Instr.typeAssert (.iface 82 v) 68 82 true).run Tryz.prog W = .ok (.tuple #[v, .bool true]) W := by kernel_rfl
theorem as_ra (v : Value) (W : World) : (Instr.typeAssert (.iface 90 v) 68 82 true).run Tryz.prog W = .ok (.tuple #[.pointer none, .bool false]) W := by kernel_rfl
theorem as_rr (v : Value) (W : World) : (Instr.typeAssert (.iface 90 v) 68 90 true).run Tryz.prog W = .ok (.tuple #[v, .bool true]) W := by kernel_rfl
theorem as_ba (v : Value) (W : World) : (Instr.typeAssert (.iface 99 v) 68 82 true).run Tryz.prog W = .ok (.tuple #[.pointer none, .bool false]) W := by kernel_rfl
theorem as_br (v : Value) (W : World) : (Instr.typeAssert (.iface 99 v) 68 90 true).run Tryz.prog W = .ok (.tuple #[.pointer none, .bool false]) W := by kernel_rfl
theorem as_bb (v : Value) (W : World) : (Instr.typeAssert (.iface 99 v) 68 99 true).run Tryz.prog W = .ok (.tuple #[v, .bool true]) W := by kernel_rfl

set_option maxRecDepth 100000 in
set_option maxHeartbeats 1000000 in
theorem iiInit_end (I p n c pos : Nat) (G : Option Addr) (w : World) (cs : List Value) (hb : Blk w I IIty cs) (c0 : cs[0]? = some (.int .i64 (pos : Int))) (c3 : cs[3]? = some (.pointer (some ⟨p, 0, none⟩)))
    (h0 : w.cell? ⟨p, 0, none⟩ = some (.slice G n c)) (hn : n ≤ pos) :
    Calls Tryz.prog 63 #[.pointer (some ⟨I, 0, none⟩)] w fun e w' => e = .returned (.tuple #[]) ∧ Mild w w' := by
  have f0 := (hb.cell 0).trans c0
  have f3 := (hb.cell 3).trans c3
  have d0 : decide ((pos : Int) < (n : Int)) = false := by simp; omega
  clear hb c0 c3
  go_enter Tryz.func63, Tryz.ntmps63
  go_wp2
  go_quiet (first | (go_at_call 71; exact Calls.quiet_of_same (qs (raSize_any p _ n c _ (by exact h0)))))
  go_wp2
  go_end0
  exact ⟨rfl, (Kept.refl _ _).drewN _⟩

set_option maxRecDepth 100000 in
set_option maxHeartbeats 1000000 in
theorem iiInit_S (I p n c pos key gk gc cc q g m c' : Nat) (w : World) (cs : List Value) (hb : Blk w I IIty cs) (hl : cs.length = 11) (c0 : cs[0]? = some (.int .i64 (pos : Int))) (c3 : cs[3]? = some (.pointer (some ⟨p, 0, none⟩)))
    (h0 : w.cell? ⟨p, 0, none⟩ = some (.slice (some ⟨gk, 0, none⟩) n c)) (h1 : w.cell? ⟨p, 1, none⟩ = some (.slice (some ⟨gc, 0, none⟩) n cc)) (hn : pos < n) (hkey : w.cell? ⟨gk, pos, none⟩ = some (.int .u16 (key : Int))) (hk : key < 65536)
    (hc : w.cell? ⟨gc, pos, none⟩ = some (.iface 82 (.pointer (some ⟨q, 0, none⟩)))) (hq : w.cell? ⟨q, 0, none⟩ = some (.slice (some ⟨g, 0, none⟩) m c'))
    (hpI : p ≠ I) (hgI : gc ≠ I) (hqI : q ≠ I) :
    Calls Tryz.prog 63 #[.pointer (some ⟨I, 0, none⟩)] w fun e w' => e = .returned (.tuple #[]) ∧ Kept (fun k => k = I) w w' ∧
      Blk w' I IIty ((((cs.set 1 (.int .u32 (key * 65536 : Nat))).set 4 (.slice (some ⟨g, 0, none⟩) m c')).set 5 (.int .i64 0)).set 2 (.iface 127 (.pointer (some ⟨I, 4, none⟩)))) := by
  have f0 := (hb.cell 0).trans c0
  have f3 := (hb.cell 3).trans c3
  have d0 : decide ((pos : Int) < (n : Int)) = true := by simp; omega
  go_enter Tryz.func63, Tryz.ntmps63
  go_wp2
  go_quiet (first | (go_at_call 71; exact Calls.quiet_of_same (qs (raSize_any p _ n c _ (by exact h0)))))
  go_wp2
  have hW : Mild w (w.drewN nq) := (Kept.refl _ _).drewN nq
  generalize w.drewN nq = W at *
  have hb1 := hb.kept hW id
  have g0 := (hb1.cell 0).trans c0
  have g3 := (hb1.cell 3).trans c3
  have gf := hb1.free 1
  obtain ⟨x1, hx1⟩ : ∃ x, cs[1]? = some x := ⟨cs[1]'(by omega), List.getElem?_eq_getElem _⟩
  have g1 := (hb1.cell 1).trans hx1
  have K := Lib.hid (raKey_any p gk n c pos key W.drew (hW.cell2 id h0) hn (hW.cell2 id hkey))
  have u1 : IntKind.u32.wrap (key : Int) = (key : Int) := IntWalk.u32_in _ (by omega)
  have u2 : IntKind.u32.wrap ((key : Int) * 65536) = (key : Int) * 65536 := IntWalk.u32_in _ (by omega)
  go_cut [] (fun wx => wx = (W.setCell ⟨I, 1, none⟩ (.int .u32 ((key : Int) * 65536))).drew)
  case first =>
    go_region_with (first
      | (go_at_call 72; ((with_reducible refine K.out.mono ?_); rintro ed w2 ⟨rfl, rfl⟩)))
    all_goals
      go_wp2
      go_meet
      case rel => rfl
  case rest =>
    subst hcut
    clear K u1 u2
    have ek : (key : Int) * 65536 = ((key * 65536 : Nat) : Int) := by omega
    rw [ek]
    clear ek
    have hb2 : Blk (W.setCell ⟨I, 1, none⟩ (.int .u32 ((key * 65536 : Nat) : Int))).drew I IIty (cs.set 1 (.int .u32 ((key * 65536 : Nat) : Int))) := (hb1.set 1 _).drew
    have hW2 : Kept (fun k => k = I) w (W.setCell ⟨I, 1, none⟩ (.int .u32 ((key * 65536 : Nat) : Int))).drew := (Mild.one hW I 1 _).drew
    generalize (W.setCell ⟨I, 1, none⟩ (.int .u32 ((key * 65536 : Nat) : Int))).drew = W2 at *
    have k0 : W2.cell? ⟨I, 0, none⟩ = some (.int .i64 (pos : Int)) := (hb2.cell 0).trans (by rw [List.getElem?_set_ne (by omega)]; exact c0)
    have k3 : W2.cell? ⟨I, 3, none⟩ = some (.pointer (some ⟨p, 0, none⟩)) := (hb2.cell 3).trans (by rw [List.getElem?_set_ne (by omega)]; exact c3)
    have h1' := hW2.cell2 hpI h1
    have hc' := hW2.cell2 hgI hc
    have hq' := hW2.cell2 hqI hq
    have ff := fun o => hb2.free o
    obtain ⟨y4, hy4⟩ : ∃ x, cs[4]? = some x := ⟨cs[4]'(by omega), List.getElem?_eq_getElem _⟩
    have k4 : W2.cell? ⟨I, 4, none⟩ = some y4 := (hb2.cell 4).trans (by rw [List.getElem?_set_ne (by omega)]; exact hy4)
    clear hy4
    obtain ⟨y5, hy5⟩ : ∃ x, cs[5]? = some x := ⟨cs[5]'(by omega), List.getElem?_eq_getElem _⟩
    have k5 : W2.cell? ⟨I, 5, none⟩ = some y5 := (hb2.cell 5).trans (by rw [List.getElem?_set_ne (by omega)]; exact hy5)
    clear hy5
    obtain ⟨y2, hy2⟩ : ∃ x, cs[2]? = some x := ⟨cs[2]'(by omega), List.getElem?_eq_getElem _⟩
    have k2 : W2.cell? ⟨I, 2, none⟩ = some y2 := (hb2.cell 2).trans (by rw [List.getElem?_set_ne (by omega)]; exact hy2)
    clear hy2
    clear hb hb1 hW h0 h1 hkey hc f0 f3 g0 g3 gf g1 d0 hq
    have as1 := as_aa
    go_wp2
    go_quiet (first | (go_at_call 45; exact Calls.quiet_of_same (qs (raCont_any p gc n cc pos _ _ (by exact h1') hn (by exact hc')))))
    have hb3 := hb2.drewN nq
    have hW3 := hW2.drewN nq
    go_wp2
    go_end0
    exact ⟨rfl, Kept.setCell (S := fun k => k = I) (p := ⟨I, 2, none⟩) (Kept.setCell (S := fun k => k = I) (p := ⟨I, 5, none⟩) (Kept.setCell (S := fun k => k = I) (p := ⟨I, 4, none⟩) (hW3) (fun _ => rfl) _) (fun _ => rfl) _) (fun _ => rfl) _, (((hb3).set 4 _).set 5 _).set 2 _⟩


set_option maxRecDepth 100000 in
set_option maxHeartbeats 1000000 in
theorem iiInit_R (I p n c pos key gk gc cc q : Nat) (w : World) (cs : List Value) (hb : Blk w I IIty cs) (hl : cs.length = 11) (c0 : cs[0]? = some (.int .i64 (pos : Int))) (c3 : cs[3]? = some (.pointer (some ⟨p, 0, none⟩)))
    (h0 : w.cell? ⟨p, 0, none⟩ = some (.slice (some ⟨gk, 0, none⟩) n c)) (h1 : w.cell? ⟨p, 1, none⟩ = some (.slice (some ⟨gc, 0, none⟩) n cc)) (hn : pos < n) (hkey : w.cell? ⟨gk, pos, none⟩ = some (.int .u16 (key : Int))) (hk : key < 65536)
    (hc : w.cell? ⟨gc, pos, none⟩ = some (.iface 90 (.pointer (some ⟨q, 0, none⟩)))) 
    (hpI : p ≠ I) (hgI : gc ≠ I) :
    Calls Tryz.prog 63 #[.pointer (some ⟨I, 0, none⟩)] w fun e w' => e = .returned (.tuple #[]) ∧ Kept (fun k => k = I) w w' ∧
      Blk w' I IIty (((((cs.set 1 (.int .u32 (key * 65536 : Nat))).set 6 (.pointer (some ⟨q, 0, none⟩))).set 7 (.int .i64 0)).set 8 (.int .u16 0)).set 2 (.iface 128 (.pointer (some ⟨I, 6, none⟩)))) := by
  have f0 := (hb.cell 0).trans c0
  have f3 := (hb.cell 3).trans c3
  have d0 : decide ((pos : Int) < (n : Int)) = true := by simp; omega
  go_enter Tryz.func63, Tryz.ntmps63
  go_wp2
  go_quiet (first | (go_at_call 71; exact Calls.quiet_of_same (qs (raSize_any p _ n c _ (by exact h0)))))
  go_wp2
  have hW : Mild w (w.drewN nq) := (Kept.refl _ _).drewN nq
  generalize w.drewN nq = W at *
  have hb1 := hb.kept hW id
  have g0 := (hb1.cell 0).trans c0
  have g3 := (hb1.cell 3).trans c3
  have gf := hb1.free 1
  obtain ⟨x1, hx1⟩ : ∃ x, cs[1]? = some x := ⟨cs[1]'(by omega), List.getElem?_eq_getElem _⟩
  have g1 := (hb1.cell 1).trans hx1
  have K := Lib.hid (raKey_any p gk n c pos key W.drew (hW.cell2 id h0) hn (hW.cell2 id hkey))
  have u1 : IntKind.u32.wrap (key : Int) = (key : Int) := IntWalk.u32_in _ (by omega)
  have u2 : IntKind.u32.wrap ((key : Int) * 65536) = (key : Int) * 65536 := IntWalk.u32_in _ (by omega)
  go_cut [] (fun wx => wx = (W.setCell ⟨I, 1, none⟩ (.int .u32 ((key : Int) * 65536))).drew)
  case first =>
    go_region_with (first
      | (go_at_call 72; ((with_reducible refine K.out.mono ?_); rintro ed w2 ⟨rfl, rfl⟩)))
    all_goals
      go_wp2
      go_meet
      case rel => rfl
  case rest =>
    subst hcut
    clear K u1 u2
    have ek : (key : Int) * 65536 = ((key * 65536 : Nat) : Int) := by omega
    rw [ek]
    clear ek
    have hb2 : Blk (W.setCell ⟨I, 1, none⟩ (.int .u32 ((key * 65536 : Nat) : Int))).drew I IIty (cs.set 1 (.int .u32 ((key * 65536 : Nat) : Int))) := (hb1.set 1 _).drew
    have hW2 : Kept (fun k => k = I) w (W.setCell ⟨I, 1, none⟩ (.int .u32 ((key * 65536 : Nat) : Int))).drew := (Mild.one hW I 1 _).drew
    generalize (W.setCell ⟨I, 1, none⟩ (.int .u32 ((key * 65536 : Nat) : Int))).drew = W2 at *
    have k0 : W2.cell? ⟨I, 0, none⟩ = some (.int .i64 (pos : Int)) := (hb2.cell 0).trans (by rw [List.getElem?_set_ne (by omega)]; exact c0)
    have k3 : W2.cell? ⟨I, 3, none⟩ = some (.pointer (some ⟨p, 0, none⟩)) := (hb2.cell 3).trans (by rw [List.getElem?_set_ne (by omega)]; exact c3)
    have h1' := hW2.cell2 hpI h1
    have hc' := hW2.cell2 hgI hc

    have ff := fun o => hb2.free o
    obtain ⟨y6, hy6⟩ : ∃ x, cs[6]? = some x := ⟨cs[6]'(by omega), List.getElem?_eq_getElem _⟩
    have k6 : W2.cell? ⟨I, 6, none⟩ = some y6 := (hb2.cell 6).trans (by rw [List.getElem?_set_ne (by omega)]; exact hy6)
    clear hy6
    obtain ⟨y7, hy7⟩ : ∃ x, cs[7]? = some x := ⟨cs[7]'(by omega), List.getElem?_eq_getElem _⟩
    have k7 : W2.cell? ⟨I, 7, none⟩ = some y7 := (hb2.cell 7).trans (by rw [List.getElem?_set_ne (by omega)]; exact hy7)
    clear hy7
    obtain ⟨y8, hy8⟩ : ∃ x, cs[8]? = some x := ⟨cs[8]'(by omega), List.getElem?_eq_getElem _⟩
    have k8 : W2.cell? ⟨I, 8, none⟩ = some y8 := (hb2.cell 8).trans (by rw [List.getElem?_set_ne (by omega)]; exact hy8)
    clear hy8
    obtain ⟨y2, hy2⟩ : ∃ x, cs[2]? = some x := ⟨cs[2]'(by omega), List.getElem?_eq_getElem _⟩
    have k2 : W2.cell? ⟨I, 2, none⟩ = some y2 := (hb2.cell 2).trans (by rw [List.getElem?_set_ne (by omega)]; exact hy2)
    clear hy2
    clear hb hb1 hW h0 h1 hkey hc f0 f3 g0 g3 gf g1 d0 
    have as1 := as_ra
    have as2 := as_rr
    go_wp2
    go_quiet (first | (go_at_call 45; exact Calls.quiet_of_same (qs (raCont_any p gc n cc pos _ _ (by exact h1') hn (by exact hc')))))
    have hb3 := hb2.drewN nq
    have hW3 := hW2.drewN nq
    go_wp2
    go_end0
    exact ⟨rfl, Kept.setCell (S := fun k => k = I) (p := ⟨I, 2, none⟩) (Kept.setCell (S := fun k => k = I) (p := ⟨I, 8, none⟩) (Kept.setCell (S := fun k => k = I) (p := ⟨I, 7, none⟩) (Kept.setCell (S := fun k => k = I) (p := ⟨I, 6, none⟩) (hW3) (fun _ => rfl) _) (fun _ => rfl) _) (fun _ => rfl) _) (fun _ => rfl) _, ((((hb3).set 6 _).set 7 _).set 8 _).set 2 _⟩


set_option maxRecDepth 100000 in
set_option maxHeartbeats 1000000 in
theorem iiInit_B (I p n c pos key gk gc cc q g c' : Nat) (ws : List Nat) (w : World) (cs : List Value) (hb : Blk w I IIty cs) (hl : cs.length = 11) (c0 : cs[0]? = some (.int .i64 (pos : Int))) (c3 : cs[3]? = some (.pointer (some ⟨p, 0, none⟩)))
    (h0 : w.cell? ⟨p, 0, none⟩ = some (.slice (some ⟨gk, 0, none⟩) n c)) (h1 : w.cell? ⟨p, 1, none⟩ = some (.slice (some ⟨gc, 0, none⟩) n cc)) (hn : pos < n) (hkey : w.cell? ⟨gk, pos, none⟩ = some (.int .u16 (key : Int))) (hk : key < 65536)
    (hc : w.cell? ⟨gc, pos, none⟩ = some (.iface 99 (.pointer (some ⟨q, 0, none⟩)))) (hws : ws.length = 1024) (hwb : ∀ x ∈ ws, x < 18446744073709551616) (hT : Tab w) (hv : w.cell? ⟨q, 1, none⟩ = some (.slice (some ⟨g, 0, none⟩) 1024 c')) (ho : Own w 1 23 (.slice (some ⟨g, 0, none⟩) 1024 c') 1024 (u64s ws)) (hggI : g ≠ I) (htI : 0 ≠ I)
    (hpI : p ≠ I) (hgI : gc ≠ I) (hqI : q ≠ I) :
    Calls Tryz.prog 63 #[.pointer (some ⟨I, 0, none⟩)] w fun e w' => e = .returned (.tuple #[]) ∧ Kept (fun k => k = I) w w' ∧
      Blk w' I IIty ((((cs.set 1 (.int .u32 (key * 65536 : Nat))).set 9 (.pointer (some ⟨q, 0, none⟩))).set 10 (.int .i64 (nsb ws 0))).set 2 (.iface 130 (.pointer (some ⟨I, 9, none⟩)))) := by
  have f0 := (hb.cell 0).trans c0
  have f3 := (hb.cell 3).trans c3
  have d0 : decide ((pos : Int) < (n : Int)) = true := by simp; omega
  go_enter Tryz.func63, Tryz.ntmps63
  go_wp2
  go_quiet (first | (go_at_call 71; exact Calls.quiet_of_same (qs (raSize_any p _ n c _ (by exact h0)))))
  go_wp2
  have hW : Mild w (w.drewN nq) := (Kept.refl _ _).drewN nq
  generalize w.drewN nq = W at *
  have hb1 := hb.kept hW id
  have g0 := (hb1.cell 0).trans c0
  have g3 := (hb1.cell 3).trans c3
  have gf := hb1.free 1
  obtain ⟨x1, hx1⟩ : ∃ x, cs[1]? = some x := ⟨cs[1]'(by omega), List.getElem?_eq_getElem _⟩
  have g1 := (hb1.cell 1).trans hx1
  have K := Lib.hid (raKey_any p gk n c pos key W.drew (hW.cell2 id h0) hn (hW.cell2 id hkey))
  have u1 : IntKind.u32.wrap (key : Int) = (key : Int) := IntWalk.u32_in _ (by omega)
  have u2 : IntKind.u32.wrap ((key : Int) * 65536) = (key : Int) * 65536 := IntWalk.u32_in _ (by omega)
  go_cut [] (fun wx => wx = (W.setCell ⟨I, 1, none⟩ (.int .u32 ((key : Int) * 65536))).drew)
  case first =>
    go_region_with (first
      | (go_at_call 72; ((with_reducible refine K.out.mono ?_); rintro ed w2 ⟨rfl, rfl⟩)))
    all_goals
      go_wp2
      go_meet
      case rel => rfl
  case rest =>
    subst hcut
    clear K u1 u2
    have ek : (key : Int) * 65536 = ((key * 65536 : Nat) : Int) := by omega
    rw [ek]
    clear ek
    have hb2 : Blk (W.setCell ⟨I, 1, none⟩ (.int .u32 ((key * 65536 : Nat) : Int))).drew I IIty (cs.set 1 (.int .u32 ((key * 65536 : Nat) : Int))) := (hb1.set 1 _).drew
    have hW2 : Kept (fun k => k = I) w (W.setCell ⟨I, 1, none⟩ (.int .u32 ((key * 65536 : Nat) : Int))).drew := (Mild.one hW I 1 _).drew
    generalize (W.setCell ⟨I, 1, none⟩ (.int .u32 ((key * 65536 : Nat) : Int))).drew = W2 at *
    have k0 : W2.cell? ⟨I, 0, none⟩ = some (.int .i64 (pos : Int)) := (hb2.cell 0).trans (by rw [List.getElem?_set_ne (by omega)]; exact c0)
    have k3 : W2.cell? ⟨I, 3, none⟩ = some (.pointer (some ⟨p, 0, none⟩)) := (hb2.cell 3).trans (by rw [List.getElem?_set_ne (by omega)]; exact c3)
    have h1' := hW2.cell2 hpI h1
    have hc' := hW2.cell2 hgI hc
    have NS := Lib.hid (fun (N : Nat) => nsb_any q g c' ws 0 (W2.drewN N) hws hwb (by omega) (fun i hi => hW2.cell2 htI (hT i hi)) (hW2.cell2 hqI hv) (ho.kept (S := fun k => k = I) (hW2.drewN N) (by intro b hb; simp at hb; subst hb; exact hggI)))
    have ff := fun o => hb2.free o
    obtain ⟨y9, hy9⟩ : ∃ x, cs[9]? = some x := ⟨cs[9]'(by omega), List.getElem?_eq_getElem _⟩
    have k9 : W2.cell? ⟨I, 9, none⟩ = some y9 := (hb2.cell 9).trans (by rw [List.getElem?_set_ne (by omega)]; exact hy9)
    clear hy9
    obtain ⟨y10, hy10⟩ : ∃ x, cs[10]? = some x := ⟨cs[10]'(by omega), List.getElem?_eq_getElem _⟩
    have k10 : W2.cell? ⟨I, 10, none⟩ = some y10 := (hb2.cell 10).trans (by rw [List.getElem?_set_ne (by omega)]; exact hy10)
    clear hy10
    obtain ⟨y2, hy2⟩ : ∃ x, cs[2]? = some x := ⟨cs[2]'(by omega), List.getElem?_eq_getElem _⟩
    have k2 : W2.cell? ⟨I, 2, none⟩ = some y2 := (hb2.cell 2).trans (by rw [List.getElem?_set_ne (by omega)]; exact hy2)
    clear hy2
    clear hb hb1 hW h0 h1 hkey hc f0 f3 g0 g3 gf g1 d0 hws hwb hT hv ho
    have as1 := as_ba
    have as2 := as_br
    have as3 := as_bb
    go_wp2
    go_quiet (first | (go_at_call 45; exact Calls.quiet_of_same (qs (raCont_any p gc n cc pos _ _ (by exact h1') hn (by exact hc')))))
    have hb3 := hb2.drewN nq
    have hW3 := hW2.drewN nq
    go_wp2_with (first
      | (go_at_call 73; refine (NS.out nq).mono ?_; rintro ed w2 ⟨rfl, rfl⟩))
    go_end0
    exact ⟨rfl, Kept.setCell (S := fun k => k = I) (p := ⟨I, 2, none⟩) (Kept.setCell (S := fun k => k = I) (p := ⟨I, 10, none⟩) (Kept.setCell (S := fun k => k = I) (p := ⟨I, 9, none⟩) (hW3) (fun _ => rfl) _) (fun _ => rfl) _) (fun _ => rfl) _, (((hb3).set 9 _).set 10 _).set 2 _⟩
end Go.Proofs
