/-
  The iterator of a set that fills buffers: where it begins a container.
  nextMany of a container's iterator, whatever its kind.
  manyIntIterator: init, NextMany, Initialize, ManyIterator: a set's numbers go to buffers.
-/
import Derived.Test.YteagcndpegdojaaGreatDoorKIi
import Derived.Test.YteagcndpegdojaaGreatDoorKNmr
import Derived.Test.YteagcndpegdojaaGreatDoorKNmb
import Derived.Test.YteagcndpegdojaaGreatDoorKIn
namespace Go.Proofs
open Go.RowKit Go.Roar
abbrev MIty := 97

set_option maxRecDepth 100000 in
set_option maxHeartbeats 1000000 in
theorem miInit_end (I p n c pos : Nat) (G : Option Addr) (w : World) (cs : List Value) (hb : Blk w I MIty cs) (hl : cs.length = 12) (c0 : cs[0]? = some (.int .i64 (pos : Int))) (c3 : cs[3]? = some (.pointer (some ⟨p, 0, none⟩)))
    (h0 : w.cell? ⟨p, 0, none⟩ = some (.slice G n c)) (hn : n ≤ pos) :
    Calls Tryz.prog 43 #[.pointer (some ⟨I, 0, none⟩)] w fun e w' => e = .returned (.tuple #[]) ∧ Kept (fun k => k = I) w w' ∧ Blk w' I MIty (cs.set 2 .nilIface) := by
  have f0 := (hb.cell 0).trans c0
  have f3 := (hb.cell 3).trans c3
  have d0 : decide ((pos : Int) < (n : Int)) = false := by simp; omega
  have ff := fun o => hb.free o
  obtain ⟨y2, hy2⟩ : ∃ x, cs[2]? = some x := ⟨cs[2]'(by omega), List.getElem?_eq_getElem _⟩
  have k2 := (hb.cell 2).trans hy2
  have HB := Lib.hid hb
  clear hb c0 c3 hy2
  go_enter Tryz.func43, Tryz.ntmps43
  go_wp2
  go_quiet (first | (go_at_call 45; exact Calls.quiet_of_same (qs (raSize_any p _ n c _ (by exact h0)))))
  go_wp2
  go_end0
  exact ⟨rfl, Kept.setCell (S := fun k => k = I) (p := ⟨I, 2, none⟩) ((Kept.refl _ _).drewN _) (fun _ => rfl) _, (HB.out.drewN _).set 2 _⟩

set_option maxRecDepth 100000 in
set_option maxHeartbeats 1000000 in
theorem miInit_S (I p n c pos key gk gc cc q g m c' : Nat) (w : World) (cs : List Value) (hb : Blk w I MIty cs) (hl : cs.length = 12) (c0 : cs[0]? = some (.int .i64 (pos : Int))) (c3 : cs[3]? = some (.pointer (some ⟨p, 0, none⟩)))
    (h0 : w.cell? ⟨p, 0, none⟩ = some (.slice (some ⟨gk, 0, none⟩) n c)) (h1 : w.cell? ⟨p, 1, none⟩ = some (.slice (some ⟨gc, 0, none⟩) n cc)) (hn : pos < n) (hkey : w.cell? ⟨gk, pos, none⟩ = some (.int .u16 (key : Int))) (hk : key < 65536)
    (hc : w.cell? ⟨gc, pos, none⟩ = some (.iface 118 (.pointer (some ⟨q, 0, none⟩)))) (hq : w.cell? ⟨q, 0, none⟩ = some (.slice (some ⟨g, 0, none⟩) m c'))
    (hpI : p ≠ I) (hgI : gc ≠ I) (hqI : q ≠ I) :
    Calls Tryz.prog 43 #[.pointer (some ⟨I, 0, none⟩)] w fun e w' => e = .returned (.tuple #[]) ∧ Kept (fun k => k = I) w w' ∧
      Blk w' I MIty ((((cs.set 1 (.int .u32 (key * 65536 : Nat))).set 4 (.slice (some ⟨g, 0, none⟩) m c')).set 5 (.int .i64 0)).set 2 (.iface 121 (.pointer (some ⟨I, 4, none⟩)))) := by
  have f0 := (hb.cell 0).trans c0
  have f3 := (hb.cell 3).trans c3
  have d0 : decide ((pos : Int) < (n : Int)) = true := by simp; omega
  go_enter Tryz.func43, Tryz.ntmps43
  go_wp2
  go_quiet (first | (go_at_call 45; exact Calls.quiet_of_same (qs (raSize_any p _ n c _ (by exact h0)))))
  go_wp2
  have hW : Mild w (w.drewN nq) := (Kept.refl _ _).drewN nq
  generalize w.drewN nq = W at *
  have hb1 := hb.kept hW id
  have g0 := (hb1.cell 0).trans c0
  have g3 := (hb1.cell 3).trans c3
  have gf := hb1.free 1
  obtain ⟨x1, hx1⟩ : ∃ x, cs[1]? = some x := ⟨cs[1]'(by omega), List.getElem?_eq_getElem _⟩
  have g1 := (hb1.cell 1).trans hx1
  have K := Lib.hid (raKey_any p gk n c pos key W.drew (hW.cell2 id h0) hn (hW.cell2 id hkey))
  have u1 : IntKind.u32.wrap (key : Int) = (key : Int) := IntWalk.u32_in _ (by omega)
  have u2 : IntKind.u32.wrap ((key : Int) * 65536) = (key : Int) * 65536 := IntWalk.u32_in _ (by omega)
  go_cut [] (fun wx => wx = (W.setCell ⟨I, 1, none⟩ (.int .u32 ((key : Int) * 65536))).drew)
  case first =>
    go_region_with (first
      | (go_at_call 46; ((with_reducible refine K.out.mono ?_); rintro ed w2 ⟨rfl, rfl⟩)))
    all_goals
      go_wp2
      go_meet
      case rel => rfl
  case rest =>
    subst hcut
    clear K u1 u2
    have ek : (key : Int) * 65536 = ((key * 65536 : Nat) : Int) := by omega
    rw [ek]
    clear ek
    have hb2 : Blk (W.setCell ⟨I, 1, none⟩ (.int .u32 ((key * 65536 : Nat) : Int))).drew I MIty (cs.set 1 (.int .u32 ((key * 65536 : Nat) : Int))) := (hb1.set 1 _).drew
    have hW2 : Kept (fun k => k = I) w (W.setCell ⟨I, 1, none⟩ (.int .u32 ((key * 65536 : Nat) : Int))).drew := (Mild.one hW I 1 _).drew
    generalize (W.setCell ⟨I, 1, none⟩ (.int .u32 ((key * 65536 : Nat) : Int))).drew = W2 at *
    have k0 : W2.cell? ⟨I, 0, none⟩ = some (.int .i64 (pos : Int)) := (hb2.cell 0).trans (by rw [List.getElem?_set_ne (by omega)]; exact c0)
    have k3 : W2.cell? ⟨I, 3, none⟩ = some (.pointer (some ⟨p, 0, none⟩)) := (hb2.cell 3).trans (by rw [List.getElem?_set_ne (by omega)]; exact c3)
    have h1' := hW2.cell2 hpI h1
    have hc' := hW2.cell2 hgI hc
    have hq' := hW2.cell2 hqI hq
    have ff := fun o => hb2.free o
    obtain ⟨y4, hy4⟩ : ∃ x, cs[4]? = some x := ⟨cs[4]'(by omega), List.getElem?_eq_getElem _⟩
    have k4 : W2.cell? ⟨I, 4, none⟩ = some y4 := (hb2.cell 4).trans (by rw [List.getElem?_set_ne (by omega)]; exact hy4)
    clear hy4
    obtain ⟨y5, hy5⟩ : ∃ x, cs[5]? = some x := ⟨cs[5]'(by omega), List.getElem?_eq_getElem _⟩
    have k5 : W2.cell? ⟨I, 5, none⟩ = some y5 := (hb2.cell 5).trans (by rw [List.getElem?_set_ne (by omega)]; exact hy5)
    clear hy5
    obtain ⟨y2, hy2⟩ : ∃ x, cs[2]? = some x := ⟨cs[2]'(by omega), List.getElem?_eq_getElem _⟩
    have k2 : W2.cell? ⟨I, 2, none⟩ = some y2 := (hb2.cell 2).trans (by rw [List.getElem?_set_ne (by omega)]; exact hy2)
    clear hy2
    clear hb hb1 hW h0 h1 hkey hc f0 f3 g0 g3 gf g1 d0 hq
    have as1 := as_aa
    go_wp2
    go_quiet (first | (go_at_call 32; exact Calls.quiet_of_same (qs (raCont_any p gc n cc pos _ _ (by exact h1') hn (by exact hc')))))
    have hb3 := hb2.drewN nq
    have hW3 := hW2.drewN nq
    go_wp2
    go_end0
    exact ⟨rfl, Kept.setCell (S := fun k => k = I) (p := ⟨I, 2, none⟩) (Kept.setCell (S := fun k => k = I) (p := ⟨I, 5, none⟩) (Kept.setCell (S := fun k => k = I) (p := ⟨I, 4, none⟩) (hW3) (fun _ => rfl) _) (fun _ => rfl) _) (fun _ => rfl) _, (((hb3).set 4 _).set 5 _).set 2 _⟩


set_option maxRecDepth 100000 in
set_option maxHeartbeats 1000000 in
theorem miInit_R (I p n c pos key gk gc cc q : Nat) (w : World) (cs : List Value) (hb : Blk w I MIty cs) (hl : cs.length = 12) (c0 : cs[0]? = some (.int .i64 (pos : Int))) (c3 : cs[3]? = some (.pointer (some ⟨p, 0, none⟩)))
    (h0 : w.cell? ⟨p, 0, none⟩ = some (.slice (some ⟨gk, 0, none⟩) n c)) (h1 : w.cell? ⟨p, 1, none⟩ = some (.slice (some ⟨gc, 0, none⟩) n cc)) (hn : pos < n) (hkey : w.cell? ⟨gk, pos, none⟩ = some (.int .u16 (key : Int))) (hk : key < 65536)
    (hc : w.cell? ⟨gc, pos, none⟩ = some (.iface 90 (.pointer (some ⟨q, 0, none⟩)))) 
    (hpI : p ≠ I) (hgI : gc ≠ I) :
    Calls Tryz.prog 43 #[.pointer (some ⟨I, 0, none⟩)] w fun e w' => e = .returned (.tuple #[]) ∧ Kept (fun k => k = I) w w' ∧
      Blk w' I MIty (((((cs.set 1 (.int .u32 (key * 65536 : Nat))).set 6 (.pointer (some ⟨q, 0, none⟩))).set 7 (.int .i64 0)).set 8 (.int .u16 0)).set 2 (.iface 122 (.pointer (some ⟨I, 6, none⟩)))) := by
  have f0 := (hb.cell 0).trans c0
  have f3 := (hb.cell 3).trans c3
  have d0 : decide ((pos : Int) < (n : Int)) = true := by simp; omega
  go_enter Tryz.func43, Tryz.ntmps43
  go_wp2
  go_quiet (first | (go_at_call 45; exact Calls.quiet_of_same (qs (raSize_any p _ n c _ (by exact h0)))))
  go_wp2
  have hW : Mild w (w.drewN nq) := (Kept.refl _ _).drewN nq
  generalize w.drewN nq = W at *
  have hb1 := hb.kept hW id
  have g0 := (hb1.cell 0).trans c0
  have g3 := (hb1.cell 3).trans c3
  have gf := hb1.free 1
  obtain ⟨x1, hx1⟩ : ∃ x, cs[1]? = some x := ⟨cs[1]'(by omega), List.getElem?_eq_getElem _⟩
  have g1 := (hb1.cell 1).trans hx1
  have K := Lib.hid (raKey_any p gk n c pos key W.drew (hW.cell2 id h0) hn (hW.cell2 id hkey))
  have u1 : IntKind.u32.wrap (key : Int) = (key : Int) := IntWalk.u32_in _ (by omega)
  have u2 : IntKind.u32.wrap ((key : Int) * 65536) = (key : Int) * 65536 := IntWalk.u32_in _ (by omega)
  go_cut [] (fun wx => wx = (W.setCell ⟨I, 1, none⟩ (.int .u32 ((key : Int) * 65536))).drew)
  case first =>
    go_region_with (first
      | (go_at_call 46; ((with_reducible refine K.out.mono ?_); rintro ed w2 ⟨rfl, rfl⟩)))
    all_goals
      go_wp2
      go_meet
      case rel => rfl
  case rest =>
    subst hcut
    clear K u1 u2
    have ek : (key : Int) * 65536 = ((key * 65536 : Nat) : Int) := by omega
    rw [ek]
    clear ek
    have hb2 : Blk (W.setCell ⟨I, 1, none⟩ (.int .u32 ((key * 65536 : Nat) : Int))).drew I MIty (cs.set 1 (.int .u32 ((key * 65536 : Nat) : Int))) := (hb1.set 1 _).drew
    have hW2 : Kept (fun k => k = I) w (W.setCell ⟨I, 1, none⟩ (.int .u32 ((key * 65536 : Nat) : Int))).drew := (Mild.one hW I 1 _).drew
    generalize (W.setCell ⟨I, 1, none⟩ (.int .u32 ((key * 65536 : Nat) : Int))).drew = W2 at *
    have k0 : W2.cell? ⟨I, 0, none⟩ = some (.int .i64 (pos : Int)) := (hb2.cell 0).trans (by rw [List.getElem?_set_ne (by omega)]; exact c0)
    have k3 : W2.cell? ⟨I, 3, none⟩ = some (.pointer (some ⟨p, 0, none⟩)) := (hb2.cell 3).trans (by rw [List.getElem?_set_ne (by omega)]; exact c3)
    have h1' := hW2.cell2 hpI h1
    have hc' := hW2.cell2 hgI hc

    have ff := fun o => hb2.free o
    obtain ⟨y6, hy6⟩ : ∃ x, cs[6]? = some x := ⟨cs[6]'(by omega), List.getElem?_eq_getElem _⟩
    have k6 : W2.cell? ⟨I, 6, none⟩ = some y6 := (hb2.cell 6).trans (by rw [List.getElem?_set_ne (by omega)]; exact hy6)
    clear hy6
    obtain ⟨y7, hy7⟩ : ∃ x, cs[7]? = some x := ⟨cs[7]'(by omega), List.getElem?_eq_getElem _⟩
    have k7 : W2.cell? ⟨I, 7, none⟩ = some y7 := (hb2.cell 7).trans (by rw [List.getElem?_set_ne (by omega)]; exact hy7)
    clear hy7
    obtain ⟨y8, hy8⟩ : ∃ x, cs[8]? = some x := ⟨cs[8]'(by omega), List.getElem?_eq_getElem _⟩
    have k8 : W2.cell? ⟨I, 8, none⟩ = some y8 := (hb2.cell 8).trans (by rw [List.getElem?_set_ne (by omega)]; exact hy8)
    clear hy8
    obtain ⟨y2, hy2⟩ : ∃ x, cs[2]? = some x := ⟨cs[2]'(by omega), List.getElem?_eq_getElem _⟩
    have k2 : W2.cell? ⟨I, 2, none⟩ = some y2 := (hb2.cell 2).trans (by rw [List.getElem?_set_ne (by omega)]; exact hy2)
    clear hy2
    clear hb hb1 hW h0 h1 hkey hc f0 f3 g0 g3 gf g1 d0 
    have as1 := as_ra
    have as2 := as_rr
    go_wp2
    go_quiet (first | (go_at_call 32; exact Calls.quiet_of_same (qs (raCont_any p gc n cc pos _ _ (by exact h1') hn (by exact hc')))))
    have hb3 := hb2.drewN nq
    have hW3 := hW2.drewN nq
    go_wp2
    go_end0
    exact ⟨rfl, Kept.setCell (S := fun k => k = I) (p := ⟨I, 2, none⟩) (Kept.setCell (S := fun k => k = I) (p := ⟨I, 8, none⟩) (Kept.setCell (S := fun k => k = I) (p := ⟨I, 7, none⟩) (Kept.setCell (S := fun k => k = I) (p := ⟨I, 6, none⟩) (hW3) (fun _ => rfl) _) (fun _ => rfl) _) (fun _ => rfl) _) (fun _ => rfl) _, ((((hb3).set 6 _).set 7 _).set 8 _).set 2 _⟩


set_option maxRecDepth 100000 in
set_option maxHeartbeats 1000000 in
theorem miInit_B (I p n c pos key gk gc cc q : Nat) (w : World) (cs : List Value) (hb : Blk w I MIty cs) (hl : cs.length = 12) (c0 : cs[0]? = some (.int .i64 (pos : Int))) (c3 : cs[3]? = some (.pointer (some ⟨p, 0, none⟩)))
    (h0 : w.cell? ⟨p, 0, none⟩ = some (.slice (some ⟨gk, 0, none⟩) n c)) (h1 : w.cell? ⟨p, 1, none⟩ = some (.slice (some ⟨gc, 0, none⟩) n cc)) (hn : pos < n) (hkey : w.cell? ⟨gk, pos, none⟩ = some (.int .u16 (key : Int))) (hk : key < 65536)
    (hc : w.cell? ⟨gc, pos, none⟩ = some (.iface 93 (.pointer (some ⟨q, 0, none⟩))))
    (hpI : p ≠ I) (hgI : gc ≠ I) :
    Calls Tryz.prog 43 #[.pointer (some ⟨I, 0, none⟩)] w fun e w' => e = .returned (.tuple #[]) ∧ Kept (fun k => k = I) w w' ∧
      Blk w' I MIty (((((cs.set 1 (.int .u32 (key * 65536 : Nat))).set 9 (.pointer (some ⟨q, 0, none⟩))).set 10 (.int .i64 (-1))).set 11 (.int .u64 0)).set 2 (.iface 123 (.pointer (some ⟨I, 9, none⟩)))) := by
  have f0 := (hb.cell 0).trans c0
  have f3 := (hb.cell 3).trans c3
  have d0 : decide ((pos : Int) < (n : Int)) = true := by simp; omega
  go_enter Tryz.func43, Tryz.ntmps43
  go_wp2
  go_quiet (first | (go_at_call 45; exact Calls.quiet_of_same (qs (raSize_any p _ n c _ (by exact h0)))))
  go_wp2
  have hW : Mild w (w.drewN nq) := (Kept.refl _ _).drewN nq
  generalize w.drewN nq = W at *
  have hb1 := hb.kept hW id
  have g0 := (hb1.cell 0).trans c0
  have g3 := (hb1.cell 3).trans c3
  have gf := hb1.free 1
  obtain ⟨x1, hx1⟩ : ∃ x, cs[1]? = some x := ⟨cs[1]'(by omega), List.getElem?_eq_getElem _⟩
  have g1 := (hb1.cell 1).trans hx1
  have K := Lib.hid (raKey_any p gk n c pos key W.drew (hW.cell2 id h0) hn (hW.cell2 id hkey))
  have u1 : IntKind.u32.wrap (key : Int) = (key : Int) := IntWalk.u32_in _ (by omega)
  have u2 : IntKind.u32.wrap ((key : Int) * 65536) = (key : Int) * 65536 := IntWalk.u32_in _ (by omega)
  go_cut [] (fun wx => wx = (W.setCell ⟨I, 1, none⟩ (.int .u32 ((key : Int) * 65536))).drew)
  case first =>
    go_region_with (first
      | (go_at_call 46; ((with_reducible refine K.out.mono ?_); rintro ed w2 ⟨rfl, rfl⟩)))
    all_goals
      go_wp2
      go_meet
      case rel => rfl
  case rest =>
    subst hcut
    clear K u1 u2
    have ek : (key : Int) * 65536 = ((key * 65536 : Nat) : Int) := by omega
    rw [ek]
    clear ek
    have hb2 : Blk (W.setCell ⟨I, 1, none⟩ (.int .u32 ((key * 65536 : Nat) : Int))).drew I MIty (cs.set 1 (.int .u32 ((key * 65536 : Nat) : Int))) := (hb1.set 1 _).drew
    have hW2 : Kept (fun k => k = I) w (W.setCell ⟨I, 1, none⟩ (.int .u32 ((key * 65536 : Nat) : Int))).drew := (Mild.one hW I 1 _).drew
    generalize (W.setCell ⟨I, 1, none⟩ (.int .u32 ((key * 65536 : Nat) : Int))).drew = W2 at *
    have k0 : W2.cell? ⟨I, 0, none⟩ = some (.int .i64 (pos : Int)) := (hb2.cell 0).trans (by rw [List.getElem?_set_ne (by omega)]; exact c0)
    have k3 : W2.cell? ⟨I, 3, none⟩ = some (.pointer (some ⟨p, 0, none⟩)) := (hb2.cell 3).trans (by rw [List.getElem?_set_ne (by omega)]; exact c3)
    have h1' := hW2.cell2 hpI h1
    have hc' := hW2.cell2 hgI hc
    have ff := fun o => hb2.free o
    obtain ⟨y9, hy9⟩ : ∃ x, cs[9]? = some x := ⟨cs[9]'(by omega), List.getElem?_eq_getElem _⟩
    have k9 : W2.cell? ⟨I, 9, none⟩ = some y9 := (hb2.cell 9).trans (by rw [List.getElem?_set_ne (by omega)]; exact hy9)
    clear hy9
    obtain ⟨y10, hy10⟩ : ∃ x, cs[10]? = some x := ⟨cs[10]'(by omega), List.getElem?_eq_getElem _⟩
    have k10 : W2.cell? ⟨I, 10, none⟩ = some y10 := (hb2.cell 10).trans (by rw [List.getElem?_set_ne (by omega)]; exact hy10)
    clear hy10
    obtain ⟨y11, hy11⟩ : ∃ x, cs[11]? = some x := ⟨cs[11]'(by omega), List.getElem?_eq_getElem _⟩
    have k11 : W2.cell? ⟨I, 11, none⟩ = some y11 := (hb2.cell 11).trans (by rw [List.getElem?_set_ne (by omega)]; exact hy11)
    clear hy11
    obtain ⟨y2, hy2⟩ : ∃ x, cs[2]? = some x := ⟨cs[2]'(by omega), List.getElem?_eq_getElem _⟩
    have k2 : W2.cell? ⟨I, 2, none⟩ = some y2 := (hb2.cell 2).trans (by rw [List.getElem?_set_ne (by omega)]; exact hy2)
    clear hy2
    clear hb hb1 hW h0 h1 hkey hc f0 f3 g0 g3 gf g1 d0
    have as1 := as_ba
    have as2 := as_br
    have as3 := as_bb
    go_wp2
    go_quiet (first | (go_at_call 32; exact Calls.quiet_of_same (qs (raCont_any p gc n cc pos _ _ (by exact h1') hn (by exact hc')))))
    have hb3 := hb2.drewN nq
    have hW3 := hW2.drewN nq
    go_wp2
    go_end0
    exact ⟨rfl, Kept.setCell (S := fun k => k = I) (p := ⟨I, 2, none⟩) (Kept.setCell (S := fun k => k = I) (p := ⟨I, 11, none⟩) (Kept.setCell (S := fun k => k = I) (p := ⟨I, 10, none⟩) (Kept.setCell (S := fun k => k = I) (p := ⟨I, 9, none⟩) (hW3) (fun _ => rfl) _) (fun _ => rfl) _) (fun _ => rfl) _) (fun _ => rfl) _, ((((hb3).set 9 _).set 10 _).set 11 _).set 2 _⟩
end Go.Proofs

namespace Go.Roar
open Go.RowKit Go.Proofs
/-- The iterator of bits stands ready, l left. -/
def LowV (w : World) (H : Nat) (cs : List Value) (l : List Nat) : Prop :=
  ∃ (p g c : Nat) (ws : List Nat) (b v : Nat), cs[9]? = some (.pointer (some ⟨p, 0, none⟩)) ∧ cs[10]? = some (.int .i64 ((b : Int) - 1)) ∧ cs[11]? = some (.int .u64 (v : Int)) ∧ p < H ∧ g < H ∧ ws.length = 1024 ∧ (∀ x ∈ ws, x < 18446744073709551616) ∧ w.cell? ⟨p, 1, none⟩ = some (.slice (some ⟨g, 0, none⟩) 1024 c) ∧
    (∀ (i x : Nat), ws[i]? = some x → w.cell? ⟨g, i, none⟩ = some (.int .u64 (x : Int))) ∧ v < 18446744073709551616 ∧ b ≤ 1025 ∧ (v ≠ 0 → 1 ≤ b) ∧ mbL ws b v = l
theorem LowV.kept {S : Nat → Prop} {w w' : World} {H : Nat} {cs : List Value} {l : List Nat} (h : LowV w H cs l) (hk : Kept S w w') (hs : ∀ b, b < H → ¬ S b) : LowV w' H cs l := by
  obtain ⟨p, g, c, ws, b, v, a1, a2, a3, a4, a5, a6, a7, a8, a9, a10⟩ := h
  exact ⟨p, g, c, ws, b, v, a1, a2, a3, a4, a5, a6, a7, hk.cell2 (hs _ a4) a8, fun i x hx => hk.cell2 (hs _ a5) (a9 i x hx), a10⟩
/-- The iterator of a container stands ready, l left. -/
def LowN (w : World) (H I : Nat) (cs : List Value) (l : List Nat) : Prop :=
  (cs[2]? = some (.iface 121 (.pointer (some ⟨I, 4, none⟩))) ∧ LowS w H cs l) ∨
  (cs[2]? = some (.iface 122 (.pointer (some ⟨I, 6, none⟩))) ∧ LowR w H cs l) ∨
  (cs[2]? = some (.iface 123 (.pointer (some ⟨I, 9, none⟩))) ∧ LowV w H cs l)
theorem LowN.kept {S : Nat → Prop} {w w' : World} {H I : Nat} {cs : List Value} {l : List Nat} (h : LowN w H I cs l) (hk : Kept S w w') (hs : ∀ b, b < H → ¬ S b) : LowN w' H I cs l := by
  rcases h with ⟨a, b⟩ | ⟨a, b⟩ | ⟨a, b⟩
  · exact .inl ⟨a, b.kept hk hs⟩
  · exact .inr (.inl ⟨a, b.kept hk hs⟩)
  · exact .inr (.inr ⟨a, b.kept hk hs⟩)
/-- What nextMany leads to. -/
def ManyP (H I gb off m hs : Nat) (L X : List Nat) (t : TypeId) (cs : List Value) (w : World) (e : Ending) (w' : World) : Prop :=
  ∃ k cs', k = min m L.length ∧ e = .returned (.int .i64 (k : Int)) ∧ Blk w' gb t (u32s (sp X off ((L.take k).map (hs + ·)))) ∧ Blk w' I MIty cs' ∧ cs'.length = cs.length ∧ cs'.take 4 = cs.take 4 ∧ Kept (fun b => b = I ∨ b = gb) w w' ∧ (L ≠ [] → LowN w' H I cs' (L.drop k))
end Go.Roar
namespace Go.Proofs
open Go.RowKit Go.Roar

set_option maxRecDepth 100000 in
theorem riMany_end (I o p M c j0 : Nat) (G : Option Addr) (hs : Int) (u : Value) (w : World) (h0 : w.cell? ⟨I, o, none⟩ = some (.pointer (some ⟨p, 0, none⟩))) (h1 : w.cell? ⟨I, o + 1, none⟩ = some (.int .i64 (j0 : Int)))
    (hp : w.cell? ⟨p, 0, none⟩ = some (.slice G M c)) (hj : M ≤ j0) (hb : j0 ≤ 1000000) :
    Calls Tryz.prog 307 #[.pointer (some ⟨I, o, none⟩), .int .u32 hs, u] w fun e w' => e = .returned (.int .i64 0) ∧ Mild w w' := by
  have HN := Lib.hid (riHas_end I o p j0 G M c w h0 h1 hp hj hb)
  clear h0 h1 hp hj hb
  go_enter Tryz.func307, Tryz.ntmps307
  go_wp2_with (first
    | (go_at_call 305; (with_reducible refine HN.out.mono ?_); rintro ed w1 ⟨rfl, k1⟩; have K1 := Lib.hid k1; clear k1)
    | fail)
  go_ret
  exact ⟨rfl, K1.out⟩

theorem lowS_many (H I gb off m cap hs : Nat) (L X : List Nat) (t : TypeId) (cs : List Value) (w : World) (hI : Blk w I MIty cs) (hl : cs.length = 12) (h2 : cs[2]? = some (.iface 121 (.pointer (some ⟨I, 4, none⟩)))) (h : LowS w H cs L) (hLb : ∀ x ∈ L, x < 65536)
    (hb : Blk w gb t (u32s X)) (hoff : off + m ≤ X.length) (hm : m ≤ 100000) (h8 : hs % 65536 = 0) (h9 : hs < 4294967296) (d1 : gb ≠ I) (hHI : H ≤ I) (hHg : H ≤ gb) :
    Calls Tryz.prog 301 #[.pointer (some ⟨I, 4, none⟩), .int .u32 (hs : Int), .slice (some ⟨gb, off, none⟩) m cap] w (ManyP H I gb off m hs L X t cs w) := by
  obtain ⟨g, j, M, c, xs, a1, a2, a3, a4, a5, a6, a7, rfl⟩ := h
  refine (siMany_any I 4 gb off m cap hs g M c j xs X MIty t cs w hI a1 a2 a4 a5 a7 a6 hLb hb hoff hm h8 h9 d1 (by omega)).mono ?_
  rintro e w' ⟨k, hk, rfl, b1, b2, b3⟩
  have h5 : 5 < cs.length := by omega
  refine ⟨k, _, by rw [List.length_drop, a4]; exact hk, rfl, b1, b2, by simp, by rw [List.take_set_of_le (by omega)], b3, fun _ => .inl ⟨by rw [List.getElem?_set_ne (by omega)]; exact h2, g, j + k, M, c, xs, ?_, ?_, a3, a4, a5, fun i x hx => b3.cell2 (show ¬ (g = I ∨ g = gb) by omega) (a6 i x hx), by omega, by rw [List.drop_drop]⟩⟩
  · rw [List.getElem?_set_ne (by omega)]; exact a1
  · rw [List.getElem?_set_self h5]

theorem lowR_many (H I gb off m cap hs : Nat) (L X : List Nat) (t : TypeId) (cs : List Value) (w : World) (hI : Blk w I MIty cs) (hl : cs.length = 12) (h2 : cs[2]? = some (.iface 122 (.pointer (some ⟨I, 6, none⟩)))) (h : LowR w H cs L)
    (hb : Blk w gb t (u32s X)) (hoff : off + m ≤ X.length) (hmc : m ≤ cap) (hm : m ≤ 100000) (hm0 : 0 < m) (h8 : hs % 65536 = 0) (h9 : hs < 4294967296) (d1 : gb ≠ I) (hHI : H ≤ I) (hHg : H ≤ gb) :
    Calls Tryz.prog 307 #[.pointer (some ⟨I, 6, none⟩), .int .u32 (hs : Int), .slice (some ⟨gb, off, none⟩) m cap] w (ManyP H I gb off m hs L X t cs w) := by
  obtain ⟨q, g, j, k, M, c, rs, a1, a2, a3, a4, a5, a6, a7, a8, a9, a10, a11, a12⟩ := h
  by_cases hne : L = []
  · subst hne
    have hj : j = M := by
      rcases a12 with ⟨h, _⟩ | ⟨r, _, _, h⟩
      · exact h
      · have := congrArg List.length h
        rw [List.length_append, List.length_range', List.length_nil] at this
        omega
    refine (riMany_end I 6 q M c j _ (hs : Int) _ w ((hI.cell 6).trans a1) ((hI.cell 7).trans a2) a6 (by omega) (by omega)).mono ?_
    rintro e w' ⟨rfl, kk⟩
    exact ⟨0, cs, by simp, rfl, by rw [List.take_nil]; simp only [List.map_nil]; rw [sp_nil]; exact hb.kept kk id, hI.kept kk id, rfl, rfl, kk.mono (fun _ _ => False.elim), fun h => absurd rfl h⟩
  · have hL : riL rs j k L := by
      rcases a12 with ⟨_, h⟩ | h
      · exact absurd h hne
      · exact .inr h
    refine (riMany_any I 6 gb off m cap hs q g c M j k rs L X MIty t cs w hI a1 a2 a3 a6 a7 a8 a9 a10 hL hne hb hoff hmc hm hm0 h8 h9 d1 (by omega) (by omega) (by omega) (by omega)).mono ?_
    rintro e w' ⟨n, j', k', hn, rfl, b1, b2, b3, b4⟩
    have h7 : 7 < cs.length := by omega
    refine ⟨n, _, hn, rfl, b1, b2, by simp, by rw [List.take_set_of_le (by omega), List.take_set_of_le (by omega)], b3, fun _ => .inr (.inl ⟨by rw [List.getElem?_set_ne (by omega), List.getElem?_set_ne (by omega)]; exact h2, q, g, j', k', M, c, rs, ?_, ?_, ?_, a4, a5, b3.cell2 (show ¬ (q = I ∨ q = gb) by omega) a6, a7, a8, a9, fun i r hr => ⟨b3.cell2 (show ¬ (g = I ∨ g = gb) by omega) (a10 i r hr).1, b3.cell2 (show ¬ (g = I ∨ g = gb) by omega) (a10 i r hr).2⟩, a11, ?_⟩)⟩
    · rw [List.getElem?_set_ne (by omega), List.getElem?_set_ne (by omega)]; exact a1
    · rw [List.getElem?_set_ne (by omega), List.getElem?_set_self h7]
    · rw [List.getElem?_set_self (by rw [List.length_set]; omega)]
    · rcases b4 with ⟨h, h'⟩ | h
      · exact .inl ⟨by omega, h'⟩
      · exact .inr h

theorem lowV_many (H I gb off m cap hs : Nat) (L X : List Nat) (t : TypeId) (cs : List Value) (w : World) (hI : Blk w I MIty cs) (hl : cs.length = 12) (h2 : cs[2]? = some (.iface 123 (.pointer (some ⟨I, 9, none⟩)))) (h : LowV w H cs L) (hLb : ∀ x ∈ L, x < 65536)
    (hb : Blk w gb t (u32s X)) (hoff : off + m ≤ X.length) (hm : m ≤ 100000) (hm0 : 0 < m) (h8 : hs % 65536 = 0) (h9 : hs < 4294967296) (d1 : gb ≠ I) (hHI : H ≤ I) (hHg : H ≤ gb) :
    Calls Tryz.prog 310 #[.pointer (some ⟨I, 9, none⟩), .int .u32 (hs : Int), .slice (some ⟨gb, off, none⟩) m cap] w (ManyP H I gb off m hs L X t cs w) := by
  obtain ⟨p, g, c, ws, b, v, a1, a2, a3, a4, a5, a6, a7, a8, a9, a10, a11, a12, a13⟩ := h
  refine (biMany_any I 9 gb off m cap hs p g c b v ws L X MIty t cs w hI a1 a2 a3 a8 a6 a7 a9 a10 a11 a12 a13 hLb hb hoff hm hm0 h8 h9 d1 (by omega)).mono ?_
  rintro e w' ⟨n, b', v', hn, rfl, b1, b2, b3, b4, b5, b6⟩
  have h10 : 10 < cs.length := by omega
  refine ⟨n, _, hn, rfl, b1, b2, by simp, by rw [List.take_set_of_le (by omega), List.take_set_of_le (by omega)], b3, fun hne => .inr (.inr ⟨by rw [List.getElem?_set_ne (by omega), List.getElem?_set_ne (by omega)]; exact h2, p, g, c, ws, b', v', ?_, ?_, ?_, a4, a5, a6, a7, b3.cell2 (show ¬ (p = I ∨ p = gb) by omega) a8, fun i x hx => b3.cell2 (show ¬ (g = I ∨ g = gb) by omega) (a9 i x hx), b4, (b6 hne).1, b5, (b6 hne).2⟩)⟩
  · rw [List.getElem?_set_ne (by omega), List.getElem?_set_ne (by omega)]; exact a1
  · rw [List.getElem?_set_ne (by omega), List.getElem?_set_self h10]
  · rw [List.getElem?_set_self (by rw [List.length_set]; omega)]

theorem ahead_simany (a : Addr) (w : World) : (nilAhead 324 121 (.pointer (some a)) "loop.example/pub-g03248/pub/roaring.nextMany").run Tryz.prog w = .ok (some false) w := by kernel_rfl
theorem method_simany (a : Addr) (w : World) : (method 324 121 (.pointer (some a)) "loop.example/pub-g03248/pub/roaring.nextMany").run Tryz.prog w = .ok (301, .pointer (some a)) w := by kernel_rfl
theorem call_simany (v : Value) (s : Int) (u : Value) (w : World) : (callFunc 301 #[v, .int .u32 s, u]).run Tryz.prog w = .ok (.enter 301 #[v, .int .u32 s, u]) w := by kernel_rfl
theorem ahead_rimany (a : Addr) (w : World) : (nilAhead 324 122 (.pointer (some a)) "loop.example/pub-g03248/pub/roaring.nextMany").run Tryz.prog w = .ok (some false) w := by kernel_rfl
theorem method_rimany (a : Addr) (w : World) : (method 324 122 (.pointer (some a)) "loop.example/pub-g03248/pub/roaring.nextMany").run Tryz.prog w = .ok (307, .pointer (some a)) w := by kernel_rfl
theorem call_rimany (v : Value) (s : Int) (u : Value) (w : World) : (callFunc 307 #[v, .int .u32 s, u]).run Tryz.prog w = .ok (.enter 307 #[v, .int .u32 s, u]) w := by kernel_rfl
theorem ahead_bimany (a : Addr) (w : World) : (nilAhead 324 123 (.pointer (some a)) "loop.example/pub-g03248/pub/roaring.nextMany").run Tryz.prog w = .ok (some false) w := by kernel_rfl
theorem method_bimany (a : Addr) (w : World) : (method 324 123 (.pointer (some a)) "loop.example/pub-g03248/pub/roaring.nextMany").run Tryz.prog w = .ok (310, .pointer (some a)) w := by kernel_rfl
theorem call_bimany (v : Value) (s : Int) (u : Value) (w : World) : (callFunc 310 #[v, .int .u32 s, u]).run Tryz.prog w = .ok (.enter 310 #[v, .int .u32 s, u]) w := by kernel_rfl
/-- nextMany through the interface. -/
theorem low_many {H I : Nat} {cs : List Value} {L : List Nat} {w : World} (hl : cs.length = 12) (h : LowN w H I cs L) (hLb : ∀ x ∈ L, x < 65536) (hHI : H ≤ I) : ∃ (tt : TypeId) (o fn : Nat), cs[2]? = some (.iface tt (.pointer (some ⟨I, o, none⟩))) ∧
    (∀ W, (nilAhead 324 tt (.pointer (some ⟨I, o, none⟩)) "loop.example/pub-g03248/pub/roaring.nextMany").run Tryz.prog W = .ok (some false) W) ∧
    (∀ W, (method 324 tt (.pointer (some ⟨I, o, none⟩)) "loop.example/pub-g03248/pub/roaring.nextMany").run Tryz.prog W = .ok (fn, .pointer (some ⟨I, o, none⟩)) W) ∧
    (∀ (s : Int) (u : Value) W, (callFunc fn #[.pointer (some ⟨I, o, none⟩), .int .u32 s, u]).run Tryz.prog W = .ok (.enter fn #[.pointer (some ⟨I, o, none⟩), .int .u32 s, u]) W) ∧
    ∀ (gb off m cap hs : Nat) (X : List Nat) (t : TypeId) (W : World), Mild w W → Blk W I MIty cs → Blk W gb t (u32s X) → off + m ≤ X.length → m ≤ cap → m ≤ 100000 → 0 < m → hs % 65536 = 0 → hs < 4294967296 → gb ≠ I → H ≤ gb →
      Calls Tryz.prog fn #[.pointer (some ⟨I, o, none⟩), .int .u32 (hs : Int), .slice (some ⟨gb, off, none⟩) m cap] W (ManyP H I gb off m hs L X t cs W) := by
  rcases h with ⟨h2, h⟩ | ⟨h2, h⟩ | ⟨h2, h⟩
  · exact ⟨_, _, _, h2, fun w => ahead_simany _ w, fun w => method_simany _ w, fun s u w => call_simany _ s u w, fun gb off m cap hs X t W kk hI hb a1 a2 a3 a4 a5 a6 a7 a8 => lowS_many H I gb off m cap hs L X t cs W hI hl h2 (h.kept kk (fun _ _ => id)) hLb hb a1 a3 a5 a6 a7 hHI a8⟩
  · exact ⟨_, _, _, h2, fun w => ahead_rimany _ w, fun w => method_rimany _ w, fun s u w => call_rimany _ s u w, fun gb off m cap hs X t W kk hI hb a1 a2 a3 a4 a5 a6 a7 a8 => lowR_many H I gb off m cap hs L X t cs W hI hl h2 (h.kept kk (fun _ _ => id)) hb a1 a2 a3 a4 a5 a6 a7 hHI a8⟩
  · exact ⟨_, _, _, h2, fun w => ahead_bimany _ w, fun w => method_bimany _ w, fun s u w => call_bimany _ s u w, fun gb off m cap hs X t W kk hI hb a1 a2 a3 a4 a5 a6 a7 a8 => lowV_many H I gb off m cap hs L X t cs W hI hl h2 (h.kept kk (fun _ _ => id)) hLb hb a1 a3 a4 a5 a6 a7 hHI a8⟩
end Go.Proofs

namespace Go.Roar
open Go.RowKit Go.Proofs
/-- The iterator of a set stands ready, l left. -/
structure MIt (w : World) (H I p : Nat) (ps : List (Nat × List Nat)) (cs : List Value) (l : List Nat) : Prop where
  len : cs.length = 12
  blk : Blk w I MIty cs
  set : cs[3]? = some (.pointer (some ⟨p, 0, none⟩))
  at_ : ∃ pos : Nat, cs[0]? = some (.int .i64 (pos : Int)) ∧ pos ≤ ps.length ∧ ((pos = ps.length ∧ cs[2]? = some .nilIface ∧ l = []) ∨ ∃ k ls low, ps[pos]? = some (k, ls) ∧ cs[1]? = some (.int .u32 ((k * 65536 : Nat) : Int)) ∧ k < 65536 ∧ (∀ y ∈ low, y < 65536) ∧ LowN w H I cs low ∧ l = low.map (k * 65536 + ·) ++ nums (ps.drop (pos + 1)))
theorem MIt.kept {S : Nat → Prop} {w w' : World} {H I p : Nat} {ps : List (Nat × List Nat)} {cs : List Value} {l : List Nat} (h : MIt w H I p ps cs l) (hk : Kept S w w') (hs : ∀ b, b < H → ¬ S b) (hI : ¬ S I) : MIt w' H I p ps cs l where
  len := h.len
  blk := h.blk.kept hk hI
  set := h.set
  at_ := by
    obtain ⟨pos, a, b, h⟩ := h.at_
    refine ⟨pos, a, b, ?_⟩
    rcases h with h | ⟨k, ls, low, c1, c2, c3, c4, c5, c6⟩
    · exact .inl h
    · exact .inr ⟨k, ls, low, c1, c2, c3, c4, c5.kept hk hs, c6⟩
/-- The place of the container at which the iterator stands. -/
def posM (w : World) (I : Nat) : Nat := match w.cell? ⟨I, 0, none⟩ with | some (.int _ n) => n.toNat | _ => 0
theorem posM_eq {w : World} {I pos : Nat} {t : TypeId} {cs : List Value} (h : Blk w I t cs) (h0 : cs[0]? = some (.int .i64 (pos : Int))) : posM w I = pos := by
  unfold posM
  rw [(h.cell 0).trans h0]
  rfl
/-- What NextMany leads to. -/
def NMP (H I p gb N : Nat) (ps : List (Nat × List Nat)) (X : List Nat) (t : TypeId) (l : List Nat) (w : World) (e : Ending) (w' : World) : Prop :=
  ∃ k, k = min N l.length ∧ e = .returned (.int .i64 (k : Int)) ∧ Blk w' gb t (u32s (sp X 0 (l.take k))) ∧ Kept (fun b => b = I ∨ b = gb) w w' ∧ ∃ cs', MIt w' H I p ps cs' (l.drop k)
theorem mbL_all (ws : List Nat) : mbL ws 0 0 = restFrom (bitOf ws) 0 := by
  unfold mbL
  rw [bitsFrom_zero, List.map_nil, List.nil_append]
end Go.Roar
namespace Go.Proofs
open Go.RowKit Go.Roar

theorem miInit_any (H I p pos : Nat) (ps : List (Nat × List Nat)) (w : World) (cs : List Value) (hb : Blk w I MIty cs) (hl : cs.length = 12) (c0 : cs[0]? = some (.int .i64 (pos : Int))) (c3 : cs[3]? = some (.pointer (some ⟨p, 0, none⟩)))
    (hW : Whole w H p ps) (hI : H ≤ I) (hn : pos ≤ ps.length) :
    Calls Tryz.prog 43 #[.pointer (some ⟨I, 0, none⟩)] w fun e w' => e = .returned (.tuple #[]) ∧ Kept (fun k => k = I) w w' ∧ ∃ cs', MIt w' H I p ps cs' (nums (ps.drop pos)) ∧ posM w' I = pos := by
  have hpI := hW.hp
  rcases Nat.lt_or_ge pos ps.length with hlt | hge
  · obtain ⟨⟨k, ls⟩, hx⟩ : ∃ x, ps[pos]? = some x := ⟨_, List.getElem?_eq_getElem hlt⟩
    obtain ⟨gk, ck, gc, cc, v, a1, a2, a3, a4, a5, a6, a7⟩ := hW.part pos _ hx
    obtain ⟨f1, f2, f3⟩ := hW.full _ (List.mem_of_getElem? hx)
    rcases a7 with ⟨q, g, m, c, rfl, b1, b2, b3, b4, b5, b6⟩ | ⟨q, g, m, c, rs, rfl, b1, b2, b3, b4, b5, b6, b7, b9, b8⟩ | ⟨q, g, c, ws, rfl, b1, b2, b3, b4, b5, b6, b7⟩
    · refine (miInit_S I p _ _ pos k gk gc _ q g m _ w cs hb hl c0 c3 a1 a2 hlt a5 f1 a6 b3 (by omega) (by omega) (by omega)).mono ?_
      rintro e w' ⟨rfl, hk, hb'⟩
      refine ⟨rfl, hk, _, ⟨by simp [hl], hb', ?_, pos, ?_, by omega, .inr ⟨k, ls, ls, hx, ?_, f1, f3, .inl ⟨?_, g, 0, m, c, ls, ?_, ?_, b2, b4, b5, fun i x hx => hk.cell2 (show ¬ g = I by omega) (b6 i x hx), Nat.zero_le _, rfl⟩, nums_at hx⟩⟩, posM_eq hb' ?_⟩
      all_goals first | (simp [hl]; done) | (simp; first | exact c0 | exact c3)
    · refine (miInit_R I p _ _ pos k gk gc _ q w cs hb hl c0 c3 a1 a2 hlt a5 f1 a6 (by omega) (by omega)).mono ?_
      rintro e w' ⟨rfl, hk, hb'⟩
      refine ⟨rfl, hk, _, ⟨by simp [hl], hb', ?_, pos, ?_, by omega, .inr ⟨k, ls, ls, hx, ?_, f1, f3, .inr (.inl ⟨?_, q, g, 0, 0, m, c, rs, ?_, ?_, ?_, b1, b2, hk.cell2 (show ¬ q = I by omega) b3, b4, b5, b6, fun i r hr => ⟨hk.cell2 (show ¬ g = I by omega) (b7 i r hr).1, hk.cell2 (show ¬ g = I by omega) (b7 i r hr).2⟩, b9, ?_⟩), nums_at hx⟩⟩, posM_eq hb' ?_⟩
      case refine_8 =>
        rcases rs with _ | ⟨r, rs⟩
        · exact .inl ⟨by simpa using b4, by dsimp only at b8; rw [b8]; rfl⟩
        · exact .inr ⟨r, rfl, Nat.zero_le _, by dsimp only at b8; rw [b8, ivNums_cons]; simp⟩
      all_goals first | (simp [hl]; done) | (simp; first | exact c0 | exact c3)
    · refine (miInit_B I p _ _ pos k gk gc _ q w cs hb hl c0 c3 a1 a2 hlt a5 f1 a6 (by omega) (by omega)).mono ?_
      rintro e w' ⟨rfl, hk, hb'⟩
      refine ⟨rfl, hk, _, ⟨by simp [hl], hb', ?_, pos, ?_, by omega, .inr ⟨k, ls, ls, hx, ?_, f1, f3, .inr (.inr ⟨?_, q, g, c, ws, 0, 0, ?_, ?_, ?_, b1, b2, b3, b4, hk.cell2 (show ¬ q = I by omega) b5, fun i x hx => hk.cell2 (show ¬ g = I by omega) (Own.cellAt b6 (u64s_get hx)).1, by decide, by omega, fun h => absurd rfl h, by rw [mbL_all]; exact b7.symm⟩), nums_at hx⟩⟩, posM_eq hb' ?_⟩
      all_goals first | (simp [hl]; done) | (simp; first | exact c0 | exact c3)
  · obtain rfl : pos = ps.length := by omega
    obtain ⟨G, c, h0⟩ := hW.h0
    refine (miInit_end I p _ c _ G w cs hb hl c0 c3 h0 hge).mono ?_
    rintro e w' ⟨rfl, hk, hb'⟩
    refine ⟨rfl, hk, _, ⟨by simp [hl], hb', ?_, _, ?_, Nat.le_refl _, .inl ⟨rfl, ?_, ?_⟩⟩, posM_eq hb' ?_⟩
    · rw [List.getElem?_set_ne (by omega)]; exact c3
    · rw [List.getElem?_set_ne (by omega)]; exact c0
    · rw [List.getElem?_set_self (by omega)]
    · simp [nums]
    · rw [List.getElem?_set_ne (by omega)]; exact c0

set_option maxRecDepth 100000 in
set_option maxHeartbeats 1000000 in
theorem miInitialize_any (H I p : Nat) (ps : List (Nat × List Nat)) (w : World) (cs : List Value) (hb : Blk w I MIty cs) (hl : cs.length = 12) (hW : Whole w H p ps) (hI : H ≤ I) :
    Calls Tryz.prog 35 #[.pointer (some ⟨I, 0, none⟩), .pointer (some ⟨p, 0, none⟩)] w fun e w' => e = .returned (.tuple #[]) ∧ Kept (fun k => k = I) w w' ∧ ∃ cs', MIt w' H I p ps cs' (nums ps) := by
  obtain ⟨y0, hy0⟩ : ∃ x, cs[0]? = some x := ⟨cs[0]'(by omega), List.getElem?_eq_getElem _⟩
  obtain ⟨y3, hy3⟩ : ∃ x, cs[3]? = some x := ⟨cs[3]'(by omega), List.getElem?_eq_getElem _⟩
  have f0 := (hb.cell 0).trans hy0
  have f3 := (hb.cell 3).trans hy3
  have ff := fun o => hb.free o
  have hb' : Blk ((w.setCell ⟨I, 0, none⟩ (.int .i64 0)).setCell ⟨I, 3, none⟩ (.pointer (some ⟨p, 0, none⟩))) I MIty ((cs.set 0 (.int .i64 0)).set 3 (.pointer (some ⟨p, 0, none⟩))) := (hb.set 0 _).set 3 _
  have hk : Kept (fun k => k = I) w ((w.setCell ⟨I, 0, none⟩ (.int .i64 0)).setCell ⟨I, 3, none⟩ (.pointer (some ⟨p, 0, none⟩))) := Kept.setCell (S := fun k => k = I) (p := ⟨I, 3, none⟩) (Kept.one w I 0 _) (fun _ => rfl) _
  have C := Lib.hid (miInit_any H I p 0 ps _ _ hb' (by simp [hl]) (by rw [List.getElem?_set_ne (by omega), List.getElem?_set_self (by omega)]; rfl) (by rw [List.getElem?_set_self (by simp; omega)]) (hW.kept hk (fun b hb => by omega)) hI (Nat.zero_le _))
  have HK := Lib.hid hk
  clear hb' hk hW hy0 hy3 hb
  go_enter Tryz.func35, Tryz.ntmps35
  go_wp2_with (first
    | (go_at_call 43; refine C.out.mono ?_; rintro ed w4 ⟨rfl, k4, cs4, it4, _⟩))
  go_end0
  exact ⟨rfl, HK.out.trans k4, cs4, it4⟩

set_option maxRecDepth 100000 in
set_option maxHeartbeats 1000000 in
theorem bmMany_any (p : Nat) (ps : List (Nat × List Nat)) (w : World) (hW : Whole w w.heap.size p ps) :
    Calls Tryz.prog 22 #[.pointer (some ⟨p, 0, none⟩)] w fun e w' => e = .returned (.iface 84 (.pointer (some ⟨w.heap.size, 0, none⟩))) ∧ Mild w w' ∧ ∃ cs, MIt w' w.heap.size w.heap.size p ps cs (nums ps) := by
  have HW := Lib.hid hW
  clear hW
  go_enter Tryz.func22, Tryz.ntmps22
  go_wp2_with (first
    | (go_at_call 35; refine (miInitialize_any w.heap.size w.heap.size p ps _ _ (Blk.new w _ _) (by rfl) (HW.out.kept (S := fun _ => False) ((Kept.refl _ w).alloc _) (fun _ _ => id)) (Nat.le_refl _)).mono ?_; rintro ed w4 ⟨rfl, k4, cs4, it4⟩))
  go_ret
  exact ⟨rfl, Kept.then ((Kept.refl _ w).alloc _) k4 (fun k hk h => by omega), cs4, it4⟩

set_option maxRecDepth 100000 in
set_option maxHeartbeats 4000000 in
theorem nextMany_any (H I p gb N cap : Nat) (ps : List (Nat × List Nat)) (X : List Nat) (t : TypeId) (w : World) (cs : List Value) (l : List Nat) (h : MIt w H I p ps cs l) (hW : Whole w H p ps) (hI : H ≤ I) (hg : H ≤ gb) (hgI : gb ≠ I) (hb : Blk w gb t (u32s X)) (hX : X.length = N) (hc : N ≤ cap) (hN : N ≤ 1000) :
    Calls Tryz.prog 99 #[.pointer (some ⟨I, 0, none⟩), .slice (some ⟨gb, 0, none⟩) N cap] w (NMP H I p gb N ps X t l w) := by
  have HIt := Lib.hid h
  have HW := Lib.hid hW
  have HB := Lib.hid (show Blk w gb t (u32s (sp X 0 (l.take 0))) from by rw [List.take_zero, sp_nil]; exact hb)
  have HXL := Lib.hid hX
  have hlen := hW.len
  clear h hW hb hX
  go_enter Tryz.func99, Tryz.ntmps99
  go_wp2
  go_loopw [5] (fun n wr => ∃ (q : Nat) (cs2 : List Value), n = .int .i64 q ∧ q ≤ N ∧ q ≤ l.length ∧ Hid (MIt wr H I p ps cs2 (l.drop q)) ∧ Hid (Blk wr gb t (u32s (sp X 0 (l.take q)))) ∧ Hid (Kept (fun b => b = I ∨ b = gb) w wr)) (fun n wr => (N - (intOf n).toNat) + (ps.length - posM wr I))
  case atStart => exact ⟨0, cs, rfl, Nat.zero_le _, Nat.zero_le _, by rw [List.drop_zero]; exact HIt, HB, Lib.hid (Kept.refl _ _)⟩
  case round =>
    obtain ⟨q, cs2, rfl, hq1, hq2, It2, Hb, Hk⟩ := hrel
    by_cases hqN : q < N
    · obtain ⟨pos, a0, a1, a2⟩ := It2.out.at_
      have W2 := Lib.hid (HW.out.kept Hk.out (fun b hb h => by omega))
      have b0 := (It2.out.blk.cell 0).trans a0
      have hpo := posM_eq It2.out.blk a0
      have i1 : (q : Int) < (N : Int) := by omega
      rcases a2 with ⟨rfl, c2, c3⟩ | ⟨k, ls, low, c1, c2, ck, c4, c5, c6⟩
      · have b2 := (It2.out.blk.cell 2).trans c2
        have hlq : l.length = q := by
          have := congrArg List.length c3
          rw [List.length_drop, List.length_nil] at this
          omega
        have HQ := Lib.hid (show q = min N l.length by omega)
        clear c3 hlq hpo a0
        go_wp2
        go_ret
        exact ⟨q, HQ.out, rfl, Hb.out, Hk.out, cs2, It2.out⟩
      · obtain ⟨tt, o, fn, f2, n1, n2, n3, hM⟩ := low_many It2.out.len c5 c4 hI
        have b2 := (It2.out.blk.cell 2).trans f2
        have b1 := (It2.out.blk.cell 1).trans c2
        have hpl := (List.getElem?_eq_some_iff.1 c1).1
        obtain ⟨ka, hka⟩ : ∃ ka, ka = k * 65536 := ⟨_, rfl⟩
        rw [← hka] at b1
        have hqc : q < cap := by omega
        have s1 : ∀ W : World, (Instr.slice 43 (.slice (some ⟨gb, 0, none⟩) N cap) (some (.int .i64 (q : Int))) none none).run Tryz.prog W = .ok (.slice (some ⟨gb, q, none⟩) (N - q) (cap - q)) W := fun W => by
          have := run_cut_from (P := Tryz.prog) W undU32r szU32r gb 0 N cap q .i64 (q : Int) rfl (by omega) hqc
          rwa [Nat.zero_add] at this
        have hspl : (sp X 0 (l.take q)).length = N := by rw [sp_length (by rw [List.length_take, HXL.out]; omega)]; exact HXL.out
        have hlt : (l.take q).length = q := by rw [List.length_take]; omega
        have CM := hM gb q (N - q) (cap - q) ka (sp X 0 (l.take q)) t wr.drew (Kept.refl _ _).drew It2.out.blk.drew Hb.out.drew (by omega) (by omega) (by omega) (by omega) (by omega) (by omega) hgI hg
        have HSP := Lib.hid (fun (ys : List Nat) => show sp (sp X 0 (l.take q)) q ys = sp X 0 (l.take q ++ ys) from by
          have := sp_sp (X := X) (ys := l.take q) (zs := ys) (off := 0) (n := q) hlt.symm (by rw [HXL.out]; omega)
          rwa [Nat.zero_add] at this)
        have HC := Lib.hid (And.intro c1 (And.intro c2 (And.intro a0 (And.intro It2.out.set ck))))
        have HPO := Lib.hid hpo
        have HKA := Lib.hid hka
        have HL6 := Lib.hid c6
        have HC4 := Lib.hid c4
        have HF2 := Lib.hid f2
        have HLN := It2.out.len
        by_cases hlow : low = []
        · have CM0 := Lib.hid (show Calls Tryz.prog fn #[.pointer (some ⟨I, o, none⟩), .int .u32 (ka : Int), .slice (some ⟨gb, q, none⟩) (N - q) (cap - q)] wr.drew fun e w' => e = .returned (.int .i64 0) ∧ ∃ cs', Blk w' gb t (u32s (sp X 0 (l.take q))) ∧ Blk w' I MIty cs' ∧ cs'.length = 12 ∧ cs'.take 4 = cs2.take 4 ∧ Kept (fun b => b = I ∨ b = gb) wr.drew w' from CM.mono (by
            rintro e w' ⟨kk, cs5, hk, rfl, t1, t2, t3, t4, t5, t6⟩
            rw [hlow, List.length_nil, Nat.min_zero] at hk
            subst hk
            rw [List.take_zero, List.map_nil, sp_nil] at t1
            exact ⟨rfl, cs5, t1, t2, by rw [t3]; exact HLN, t4, t5⟩))
          have HD := Lib.hid (show l.drop q = nums (ps.drop (pos + 1)) from by rw [c6, hlow, List.map_nil, List.nil_append])
          have II := Lib.hid (fun (W : World) (cs5 : List Value) (kk : Kept (fun b => b = I ∨ b = gb) wr.drew W) (t2 : Blk W I MIty cs5) (t3 : cs5.length = 12) (t4 : cs5.take 4 = cs2.take 4) => miInit_any H I p (pos + 1) ps (W.setCell ⟨I, 0, none⟩ (.int .i64 ((pos : Int) + 1))) (cs5.set 0 (.int .i64 ((pos : Int) + 1))) (t2.set 0 _) (by rw [List.length_set]; exact t3) (by rw [List.getElem?_set_self (by omega)]; exact some_eq (int_eq (by omega))) (by rw [List.getElem?_set_ne (by omega)]; exact (take4 t4 3 (by omega)).trans HC.out.2.2.2.1)
            ((W2.out.kept ((Kept.refl (fun b => b = I ∨ b = gb) wr).drew.trans kk) (fun b hb h => by rcases h with h | h <;> omega)).kept (Kept.one W I 0 _) (fun b hb h => by omega)) hI (by omega))
          have hpos9 : pos ≤ 65536 := by omega
          clear CM hM c1 c2 a0 c4 c5 c6 f2 hka hpo hlow hlt hspl ck
          go_upto_region 4 with fail
          go_region_held3 (fun w' => w'.cell? ⟨I, 2, none⟩ = some (.iface tt (.pointer (some ⟨I, o, none⟩))) ∧ w'.cell? ⟨I, 1, none⟩ = some (.int .u32 (ka : Int))) (first | exact ⟨b2, b1⟩ | exact ⟨(t2.cell 2).trans ((take4 t4 2 (by omega)).trans HF2.out), (t2.cell 1).trans ((take4 t4 1 (by omega)).trans (by rw [HC.out.2.1, HKA.out]))⟩) (first
            | ((with_reducible refine CM0.out.mono ?_); rintro ed w5 ⟨rfl, cs5, t1, t2, t3, t4, t5⟩)
            | fail)
          have y0 := (t2.cell 0).trans ((take4 t4 0 (by omega)).trans HC.out.2.2.1)
          have yf := t2.free 0
          have T1 := Lib.hid t1
          have T5 := Lib.hid t5
          have IJ := Lib.hid (II.out _ cs5 t5 t2 t3 t4)
          clear t1 t2 t3 t4 t5
          go_wp2_with (first
            | (go_at_call 43; (with_reducible refine IJ.out.mono ?_); rintro ed w6 ⟨rfl, k6, cs6, it6, hp6⟩; have K6 := Lib.hid k6; have It6 := Lib.hid it6; have HP6 := Lib.hid hp6; clear k6 it6 hp6)
            | fail)
          go_roundw
          case rel => exact ⟨q, cs6, by go_num, hq1, hq2, Lib.hid (by rw [HD.out]; exact It6.out), Lib.hid ((T1.out.set_ne hgI _ _).kept K6.out (fun e => hgI e)), Lib.hid ((Kept.setCell (S := fun b => b = I ∨ b = gb) (p := ⟨I, 0, none⟩) (Hk.out.trans ((Kept.refl _ _).drew.trans T5.out)) (fun _ => .inl rfl) _).trans (K6.out.mono (fun _ _ h => .inl h)))⟩
          case measure =>
            rw [HP6.out, HPO.out]
            simp only [intOf]; omega
        · have hne := List.length_pos_iff.2 hlow
          have CM1 := Lib.hid (show Calls Tryz.prog fn #[.pointer (some ⟨I, o, none⟩), .int .u32 (ka : Int), .slice (some ⟨gb, q, none⟩) (N - q) (cap - q)] wr.drew fun e w' => ∃ kk cs', 0 < kk ∧ kk ≤ N - q ∧ kk ≤ low.length ∧ e = .returned (.int .i64 (kk : Int)) ∧ Blk w' gb t (u32s (sp (sp X 0 (l.take q)) q ((low.take kk).map (ka + ·)))) ∧ Blk w' I MIty cs' ∧ cs'.length = 12 ∧ cs'.take 4 = cs2.take 4 ∧ Kept (fun b => b = I ∨ b = gb) wr.drew w' ∧ LowN w' H I cs' (low.drop kk) from CM.mono (by
            rintro e w' ⟨kk, cs5, hk, rfl, t1, t2, t3, t4, t5, t6⟩
            exact ⟨kk, cs5, by omega, by omega, by omega, rfl, t1, t2, by rw [t3]; exact HLN, t4, t5, t6 hlow⟩))
          have HLB := Lib.hid (show ∀ kk, kk ≤ low.length → l.take (q + kk) = l.take q ++ (low.take kk).map (ka + ·) ∧ l.drop (q + kk) = (low.drop kk).map (k * 65536 + ·) ++ nums (ps.drop (pos + 1)) ∧ q + kk ≤ l.length from fun kk hkk => by
            have hl6 := congrArg List.length c6
            rw [List.length_drop, List.length_append, List.length_map] at hl6
            refine ⟨?_, ?_, by omega⟩
            · rw [List.take_add, c6, List.take_append_of_le_length (by rw [List.length_map]; exact hkk), hka, List.map_take]
            · rw [← List.drop_drop, c6, List.drop_append_of_le_length (by rw [List.length_map]; exact hkk), List.map_drop])
          clear CM hM c1 c2 a0 c4 c5 c6 f2 hka hpo hlow hlt hspl hne
          go_upto_region 4 with fail
          go_region_held3 (fun w' => w'.cell? ⟨I, 2, none⟩ = some (.iface tt (.pointer (some ⟨I, o, none⟩))) ∧ w'.cell? ⟨I, 1, none⟩ = some (.int .u32 (ka : Int))) (first | exact ⟨b2, b1⟩ | exact ⟨(t2.cell 2).trans ((take4 t4 2 (by omega)).trans HF2.out), (t2.cell 1).trans ((take4 t4 1 (by omega)).trans (by rw [HC.out.2.1, HKA.out]))⟩) (first
            | ((with_reducible refine CM1.out.mono ?_); rintro ed w5 ⟨kk, cs5, hk1, hk2, hk3, rfl, t1, t2, t3, t4, t5, t6⟩)
            | fail)
          have z1 : ((kk : Int) == 0) = false := by rw [beq_eq_false_iff_ne]; omega
          have z2 : ¬ (kk : Int) = 0 := by omega
          obtain ⟨e1, e2, e3⟩ := HLB.out kk hk3
          rw [HSP.out, ← e1] at t1
          have z0 := (take4 t4 0 (by omega)).trans HC.out.2.2.1
          have z1' := (take4 t4 1 (by omega)).trans HC.out.2.1
          have z3 := (take4 t4 3 (by omega)).trans HC.out.2.2.2.1
          have hp5 := posM_eq t2 z0
          have It5 := Lib.hid (show MIt w5 H I p ps cs5 (l.drop (q + kk)) from ⟨t3, t2, z3, pos, z0, by omega, .inr ⟨k, ls, low.drop kk, HC.out.1, z1', HC.out.2.2.2.2, fun y hy => HC4.out y (List.mem_of_mem_drop hy), t6, e2⟩⟩)
          have T1 := Lib.hid t1
          have T5 := Lib.hid t5
          have HP5 := Lib.hid hp5
          clear t1 t2 t3 t4 t5 t6 z0 z1' z3 hp5 e1 e2
          go_wp2
          go_roundw
          case rel => exact ⟨q + kk, cs5, by go_num, by omega, e3, It5, T1, Lib.hid (Hk.out.trans ((Kept.refl _ _).drew.trans T5.out))⟩
          case measure =>
            rw [HP5.out, HPO.out]
            simp only [intOf]; omega
    · have HQ := Lib.hid (show q = min N l.length by omega)
      have i1 : ¬ (q : Int) < (N : Int) := by omega
      have HQN := Lib.hid (show q = N by omega)
      clear hqN
      go_wp2
      go_ret
      exact ⟨q, HQ.out, rfl, Hb.out, Hk.out, cs2, It2.out⟩
end Go.Proofs
