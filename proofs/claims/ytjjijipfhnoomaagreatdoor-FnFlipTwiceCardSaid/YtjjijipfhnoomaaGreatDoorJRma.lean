/-
  roaringArray.resize, removeAtIndex: a container leaves a set's array.
  Bitmap.Flip: the walk.
-/
import Derived.Test.YtjjijipfhnoomaaGreatDoorJRmq
import Derived.Test.YtjjijipfhnoomaaGreatDoorJHeap
import Derived.Test.YtjjijipfhnoomaaGreatDoorJSi
import Derived.Test.YtjjijipfhnoomaaGreatDoorJPtg
import Derived.Test.YtjjijipfhnoomaaGreatDoorJUne
import Derived.Test.YtjjijipfhnoomaaGreatDoorKArw
namespace Go.Roar
open Go.RowKit Go.Proofs
/-- The parts of a roaringArray whose three slices are of one length, their cells told apart. -/
def RZ (p : Nat) (t : TypeId) (gk ck gc cc gw cw n : Nat) (xk xc xw : List Value) : List HA :=
  [B p t [.slice (some ⟨gk, 0, none⟩) n ck, .slice (some ⟨gc, 0, none⟩) n cc, .slice (some ⟨gw, 0, none⟩) n cw, .bool false], O 1 57 (.slice (some ⟨gk, 0, none⟩) n ck) n xk, O 1 68 (.slice (some ⟨gc, 0, none⟩) n cc) n xc, O 1 4 (.slice (some ⟨gw, 0, none⟩) n cw) n xw]
end Go.Roar
namespace Go.Proofs
open Go.RowKit Go.Roar

set_option maxRecDepth 100000 in
set_option maxHeartbeats 2000000 in
theorem resize_any (p : Nat) (t : TypeId) (gk ck gc cc gw cw n : Nat) (xk xc xw : List Value) (w : World) (hlen : n < 65536) (h : Parts w (RZ p t gk ck gc cc gw cw (n + 1) xk xc xw)) :
    Calls Tryz.prog 51 #[.pointer (some ⟨p, 0, none⟩), .int .i64 (n : Int)] w fun e w' => e = .returned (.tuple #[]) ∧ SS w (foot (RZ p t gk ck gc cc gw cw (n + 1) xk xc xw)) w' (RZ p t gk ck gc cc gw cw n (xk.take n) (xc.take n) (xw.take n)) := by
  have S0 := SS.init h
  generalize foot (RZ p t gk ck gc cc gw cw (n + 1) xk xc xw) = F at *
  clear h
  unfold RZ at S0
  have hck := (Own.caps (S0.get (A := O 1 57 (.slice (some ⟨gk, 0, none⟩) (n + 1) ck) (n + 1) xk) (by simp))).1
  have hcc := (Own.caps (S0.get (A := O 1 68 (.slice (some ⟨gc, 0, none⟩) (n + 1) cc) (n + 1) xc) (by simp))).1
  have hcw := (Own.caps (S0.get (A := O 1 4 (.slice (some ⟨gw, 0, none⟩) (n + 1) cw) (n + 1) xw) (by simp))).1
  have hoc : Own w 1 68 (.slice (some ⟨gc, 0, none⟩) (n + 1) cc) (n + 1) xc := S0.get (A := O 1 68 (.slice (some ⟨gc, 0, none⟩) (n + 1) cc) (n + 1) xc) (by simp)
  have hxc := hoc.len
  rw [Nat.mul_one] at hxc
  have S1 := SS.storeO (L := [B p t [.slice (some ⟨gk, 0, none⟩) (n + 1) ck, .slice (some ⟨gc, 0, none⟩) (n + 1) cc, .slice (some ⟨gw, 0, none⟩) (n + 1) cw, .bool false], O 1 57 (.slice (some ⟨gk, 0, none⟩) (n + 1) ck) (n + 1) xk]) (R := [O 1 4 (.slice (some ⟨gw, 0, none⟩) (n + 1) cw) (n + 1) xw]) S0 n (by omega) .nilIface
  have S2 := SS.store (L := []) S1 0 (.slice (some ⟨gk, 0, none⟩) n ck)
  have S3 := SS.store (L := []) S2 1 (.slice (some ⟨gc, 0, none⟩) n cc)
  have S4 := SS.store (L := []) S3 2 (.slice (some ⟨gw, 0, none⟩) n cw)
  have HS4 := Lib.hid S4
  have HXC := Lib.hid hxc
  obtain ⟨y9, hy9⟩ : ∃ y, xc[n]? = some y := ⟨_, List.getElem?_eq_getElem (by omega)⟩
  have b1 := S0.cell 0 rfl 1 rfl
  have d9 := (Own.cellAt hoc hy9)
  have e0 := S1.cell 0 rfl 0 rfl
  have ef := S1.free 0 rfl 0
  have f1 := S2.cell 0 rfl 1 rfl
  have ff := S2.free 0 rfl 1
  have g2 := S3.cell 0 rfl 2 rfl
  have gf := S3.free 0 rfl 2
  have b1' := S1.cell 0 rfl 1 rfl
  have s1 := fun (W : World) => run_slice_to (P := Tryz.prog) W undU16s szU16 (some ⟨gk, 0, none⟩) (n + 1) ck n .i64 (n : Int) rfl (by omega)
  have s2 := fun (W : World) => run_slice_to (P := Tryz.prog) W undConts szCont (some ⟨gc, 0, none⟩) (n + 1) cc n .i64 (n : Int) rfl (by omega)
  have s3 := fun (W : World) => run_slice_to (P := Tryz.prog) W undBools szBool (some ⟨gw, 0, none⟩) (n + 1) cw n .i64 (n : Int) rfl (by omega)
  clear S1 S2 S3 S4 hxc hoc hy9
  go_enter Tryz.func51, Tryz.ntmps51
  go_wp2
  go_loopw [4] (fun k wr => (k = .int .i64 (n : Int) ∧ wr = w) ∨ (k = .int .i64 ((n + 1 : Nat) : Int) ∧ wr = w.setCell ⟨gc, n, none⟩ .nilIface)) (fun k _ => n + 1 - (intOf k).toNat)
  case atStart => first | exact .inl ⟨rfl, rfl⟩ | simp
  case round =>
    rcases hrel with ⟨rfl, rfl⟩ | ⟨rfl, rfl⟩
    · have i1 : (n : Int) < ((n + 1 : Nat) : Int) := by omega
      go_wp2
      go_roundw
      case rel => exact .inr ⟨by go_num, trivial⟩
      case measure => simp only [intOf]; omega
    · go_wp2
      go_end0
      refine ⟨rfl, ?_⟩
      have hx : (xc.set n .nilIface).take n = xc.take n := List.take_set_of_le (Nat.le_refl n)
      obtain ⟨ya, -, -, ha, Sa⟩ := SS.reslice (L := [B p t [.slice (some ⟨gk, 0, none⟩) n ck, .slice (some ⟨gc, 0, none⟩) n cc, .slice (some ⟨gw, 0, none⟩) n cw, .bool false]]) (R := [O 1 68 (.slice (some ⟨gc, 0, none⟩) (n + 1) cc) (n + 1) (xc.set n .nilIface), O 1 4 (.slice (some ⟨gw, 0, none⟩) (n + 1) cw) (n + 1) xw]) (m := n) HS4.out (by omega)
      obtain ⟨yb, -, -, hb, Sb⟩ := SS.reslice (L := [B p t [.slice (some ⟨gk, 0, none⟩) n ck, .slice (some ⟨gc, 0, none⟩) n cc, .slice (some ⟨gw, 0, none⟩) n cw, .bool false], O 1 57 (.slice (some ⟨gk, 0, none⟩) n ck) n ya]) (R := [O 1 4 (.slice (some ⟨gw, 0, none⟩) (n + 1) cw) (n + 1) xw]) (m := n) Sa (by omega)
      obtain ⟨yc, -, -, hc, Sc⟩ := SS.reslice (L := [B p t [.slice (some ⟨gk, 0, none⟩) n ck, .slice (some ⟨gc, 0, none⟩) n cc, .slice (some ⟨gw, 0, none⟩) n cw, .bool false], O 1 57 (.slice (some ⟨gk, 0, none⟩) n ck) n ya, O 1 68 (.slice (some ⟨gc, 0, none⟩) n cc) n yb]) (R := []) (m := n) Sb (by omega)
      have ea := ha (Nat.le_succ n)
      have eb := hb (Nat.le_succ n)
      have ec := hc (Nat.le_succ n)
      rw [Nat.mul_one] at ea eb ec
      rw [hx] at eb
      subst ea eb ec
      exact Sc
theorem u16s_erase (l : List Nat) (i : Nat) : (u16s l).eraseIdx i = u16s (l.eraseIdx i) := by
  simp [u16s, List.eraseIdx_eq_take_drop_succ, List.map_take, List.map_drop]
theorem rep_erase (n i : Nat) (v : Value) (h : i < n + 1) : (List.replicate (n + 1) v).eraseIdx i = List.replicate n v := by
  rw [List.eraseIdx_eq_take_drop_succ, List.take_replicate, List.drop_replicate, List.replicate_append_replicate]
  congr 1; omega

set_option maxRecDepth 100000 in
set_option maxHeartbeats 4000000 in
theorem removeAt_any (p : Nat) (t : TypeId) (vk vc vw : Value) (ks : List Nat) (cs : List Value) (i : Nat) (w : World) (hi : i < ks.length) (hlen : ks.length ≤ 65536) (hone : ∀ v ∈ cs, v.oneCell' = true)
    (h : Parts w (RAL p t vk vc vw ks cs)) :
    Calls Tryz.prog 40 #[.pointer (some ⟨p, 0, none⟩), .int .i64 (i : Int)] w fun e w' => e = .returned (.tuple #[]) ∧
      ∃ vk' vc' vw', SS w (foot (RAL p t vk vc vw ks cs)) w' (RAL p t vk' vc' vw' (ks.eraseIdx i) (cs.eraseIdx i)) := by
  have hRA := RA.of h
  have hcl : cs.length = ks.length := by simpa using hRA.conts.len
  obtain ⟨gk, ck, rfl, hk1, hk2⟩ := Own.shape hRA.keys (by omega)
  obtain ⟨gc, cc, rfl, hc1, hc2⟩ := Own.shape hRA.conts (by omega)
  obtain ⟨gw, cw, rfl, hw1, hw2⟩ := Own.shape hRA.cows (by omega)
  have S0 := SS.init h
  generalize hF : foot (RAL p t (.slice (some ⟨gk, 0, none⟩) ks.length ck) (.slice (some ⟨gc, 0, none⟩) ks.length cc) (.slice (some ⟨gw, 0, none⟩) ks.length cw) ks cs) = F at *
  clear hF h hRA
  unfold RAL at S0
  obtain ⟨n, hn⟩ : ∃ n, ks.length = n + 1 := ⟨ks.length - 1, by omega⟩
  rw [hn] at S0 hcl hi hlen hk1 hc1 hw1
  have Hn := Lib.hid hn
  have Hcl := Lib.hid hcl
  have Hone := Lib.hid hone
  clear hn hcl hone
  have f00 := S0.cell 0 rfl 0 rfl
  have HS0 := Lib.hid S0
  have q1 : IntKind.i64.wrap ((i : Int) + 1) = (i : Int) + 1 := IntWalk.i64_in _ (by omega)
  have q2 : (0 : Int) ≤ (i : Int) + 1 := by omega
  have s1 := fun (W : World) => run_slice_from (P := Tryz.prog) W undU16s szU16 gk 0 (n + 1) ck i .i64 (i : Int) rfl (by omega)
  have s2 := fun (W : World) => run_slice_from (P := Tryz.prog) W undU16s szU16 gk 0 (n + 1) ck (i + 1) .i64 ((i : Int) + 1) (by omega) (by omega)
  have s3 := fun (W : World) => run_slice_from (P := Tryz.prog) W undConts szCont gc 0 (n + 1) cc i .i64 (i : Int) rfl (by omega)
  have s4 := fun (W : World) => run_slice_from (P := Tryz.prog) W undConts szCont gc 0 (n + 1) cc (i + 1) .i64 ((i : Int) + 1) (by omega) (by omega)
  have s5 := fun (W : World) => run_slice_from (P := Tryz.prog) W undBools szBool gw 0 (n + 1) cw i .i64 (i : Int) rfl (by omega)
  have s6 := fun (W : World) => run_slice_from (P := Tryz.prog) W undBools szBool gw 0 (n + 1) cw (i + 1) .i64 ((i : Int) + 1) (by omega) (by omega)
  have e9 : ((n + 1 : Nat) : Int) - 1 = (n : Int) := by omega
  have RZ9 := Lib.hid (fun (xk xc xw : List Value) (W : World) (hP : Parts W (RZ p t gk ck gc cc gw cw (n + 1) xk xc xw)) => resize_any p t gk ck gc cc gw cw n xk xc xw W (by omega) hP)
  clear S0
  go_enter Tryz.func40, Tryz.ntmps40
  go_wp2_with (first
    | (refine wpList_copy_ss rfl (.tmp 9) (.tmp 16) 59 59 rfl 57 1 undU16s szU16 w F [B p t [.slice (some ⟨gk, 0, none⟩) (n + 1) ck, .slice (some ⟨gc, 0, none⟩) (n + 1) cc, .slice (some ⟨gw, 0, none⟩) (n + 1) cw, .bool false]] [O 1 68 (.slice (some ⟨gc, 0, none⟩) (n + 1) cc) (n + 1) cs, O 1 4 (.slice (some ⟨gw, 0, none⟩) (n + 1) cw) (n + 1) (List.replicate (n + 1) (.bool false))] gk (n + 1) ck (u16s ks) HS0.out.drew (some (tlA gk 0 i ck 1)) (some (tlA gk 0 (i + 1) ck 1)) (n + 1 - i) (ck - i) (n - i) (ck - (i + 1)) ?_ ?_ i (n - i) ((u16s ks).drop (i + 1)) ?_ ?_ ?_ ?_ ?_ ?_; rfl; rfl; exact (Nat.min_eq_left (by omega)).symm; (simp [u16s, Hn.out]); exact (fun h0 => ⟨tl_some1 (by omega), _, rfl, Own.src (HS0.out.drew.get (A := O 1 57 (.slice (some ⟨gk, 0, none⟩) (n + 1) ck) (n + 1) (u16s ks)) (by simp)) (i + 1) 1 (by omega) _ drop_src0⟩); (simp [u16s, Hn.out]; omega); exact (fun v hv => u16s_one ks v (List.mem_of_mem_drop hv)); intro w2 S2; have f21 := S2.cell 0 rfl 1 rfl; have HS2 := Lib.hid S2; clear S2)
    | (refine wpList_copy_ss rfl (.tmp 23) (.tmp 30) 60 60 rfl 68 1 undConts szCont w F [B p t [.slice (some ⟨gk, 0, none⟩) (n + 1) ck, .slice (some ⟨gc, 0, none⟩) (n + 1) cc, .slice (some ⟨gw, 0, none⟩) (n + 1) cw, .bool false], O 1 57 (.slice (some ⟨gk, 0, none⟩) (n + 1) ck) (n + 1) (splice (u16s ks) i ((u16s ks).drop (i + 1)))] [O 1 4 (.slice (some ⟨gw, 0, none⟩) (n + 1) cw) (n + 1) (List.replicate (n + 1) (.bool false))] gc (n + 1) cc cs HS2.out.drew (some (tlA gc 0 i cc 1)) (some (tlA gc 0 (i + 1) cc 1)) (n + 1 - i) (cc - i) (n - i) (cc - (i + 1)) ?_ ?_ i (n - i) (cs.drop (i + 1)) ?_ ?_ ?_ ?_ ?_ ?_; rfl; rfl; exact (Nat.min_eq_left (by omega)).symm; (simp [Hcl.out]); exact (fun h0 => ⟨tl_some1 (by omega), _, rfl, Own.src (HS2.out.drew.get (A := O 1 68 (.slice (some ⟨gc, 0, none⟩) (n + 1) cc) (n + 1) cs) (by simp)) (i + 1) 1 (by omega) _ drop_src0⟩); (simp [Hcl.out]; omega); exact (fun v hv => Hone.out v (List.mem_of_mem_drop hv)); intro w3 S3; have f32 := S3.cell 0 rfl 2 rfl; have HS3 := Lib.hid S3; clear S3)
    | (refine wpList_copy_ss rfl (.tmp 37) (.tmp 44) 61 61 rfl 4 1 undBools szBool w F [B p t [.slice (some ⟨gk, 0, none⟩) (n + 1) ck, .slice (some ⟨gc, 0, none⟩) (n + 1) cc, .slice (some ⟨gw, 0, none⟩) (n + 1) cw, .bool false], O 1 57 (.slice (some ⟨gk, 0, none⟩) (n + 1) ck) (n + 1) (splice (u16s ks) i ((u16s ks).drop (i + 1))), O 1 68 (.slice (some ⟨gc, 0, none⟩) (n + 1) cc) (n + 1) (splice cs i (cs.drop (i + 1)))] [] gw (n + 1) cw (List.replicate (n + 1) (.bool false)) HS3.out.drew (some (tlA gw 0 i cw 1)) (some (tlA gw 0 (i + 1) cw 1)) (n + 1 - i) (cw - i) (n - i) (cw - (i + 1)) ?_ ?_ i (n - i) ((List.replicate (n + 1) (Value.bool false)).drop (i + 1)) ?_ ?_ ?_ ?_ ?_ ?_; rfl; rfl; exact (Nat.min_eq_left (by omega)).symm; (simp); exact (fun h0 => ⟨tl_some1 (by omega), _, rfl, Own.src (HS3.out.drew.get (A := O 1 4 (.slice (some ⟨gw, 0, none⟩) (n + 1) cw) (n + 1) (List.replicate (n + 1) (.bool false))) (by simp)) (i + 1) 1 (by omega) _ drop_src0⟩); (simp; omega); exact (fun v hv => by have := List.mem_of_mem_drop hv; simp only [List.mem_replicate] at this; rw [this.2]; rfl); intro w4 S4; have f40 := S4.cell 0 rfl 0 rfl; have HS4 := Lib.hid S4; clear S4)
    | (go_at_call 51; (with_reducible refine (RZ9.out _ _ _ _ HS4.out.sep).mono ?_); rintro ed w5 ⟨rfl, hS5⟩; have HS5 := Lib.hid hS5; clear hS5)
    | (refine wp_region_tail 13 (by kernel_rfl) (by decide +kernel) ?_; simp only [List.take_succ_cons, List.take_zero, List.drop_succ_cons, List.drop_zero]; repeat still_step; try (refine wpStill_nil ?_; show wpList _ _ _ _ _ _))
    | fail)
  go_end0
  have h5 := SS.step (R := []) HS4.out (by rw [List.append_nil]; exact List.Perm.refl _) HS5.out
  rw [List.append_nil] at h5
  have hn := Hn.out
  have hc := Hcl.out
  have e1 : (splice (u16s ks) i ((u16s ks).drop (i + 1))).take n = u16s (ks.eraseIdx i) := by
    rw [← u16s_erase]
    have := splice_out (u16s ks) i (by simp [u16s]; omega)
    rwa [show (u16s ks).length - 1 = n by simp [u16s, hn]] at this
  have e2 : (splice cs i (cs.drop (i + 1))).take n = cs.eraseIdx i := by
    have := splice_out cs i (by omega)
    rwa [show cs.length - 1 = n by omega] at this
  have e3 : (splice (List.replicate (n + 1) (Value.bool false)) i ((List.replicate (n + 1) (Value.bool false)).drop (i + 1))).take n = List.replicate n (.bool false) := by
    have := splice_out (List.replicate (n + 1) (Value.bool false)) i (by simp; omega)
    rw [rep_erase _ _ _ (by omega)] at this
    rwa [show (List.replicate (n + 1) (Value.bool false)).length - 1 = n by simp] at this
  have e4 : (ks.eraseIdx i).length = n := by rw [List.length_eraseIdx_of_lt (by omega), hn]; rfl
  refine ⟨rfl, .slice (some ⟨gk, 0, none⟩) n ck, .slice (some ⟨gc, 0, none⟩) n cc, .slice (some ⟨gw, 0, none⟩) n cw, ?_⟩
  rw [e1, e2, e3] at h5
  unfold RAL
  rw [e4]
  exact h5
end Go.Proofs
namespace Go.Proofs
open Go.RowKit Go.Roar
theorem contAt_any (p : Nat) (t : TypeId) (vk vc vw : Value) (ks : List Nat) (cs : List Value) (i : Nat) (c : Value) (w : World) (hi : i < ks.length) (hc : cs[i]? = some c) (h : Parts w (RAL p t vk vc vw ks cs)) :
    Calls Tryz.prog 45 #[.pointer (some ⟨p, 0, none⟩), .int .i64 (i : Int)] w fun e w' => e = .returned c ∧ w = w' := by
  have hRA := RA.of h
  obtain ⟨g, cc, hv, _, _⟩ := Own.shape hRA.conts (by omega)
  subst hv
  exact raCont_any p g ks.length cc i c w hRA.c hi (Own.cellAt hRA.conts hc).1
end Go.Proofs

namespace Go.Proofs
open Go.RowKit Go.Roar

set_option maxRecDepth 100000 in
set_option maxHeartbeats 8000000 in
theorem flip_any (p : Nat) (t : TypeId) (vk vc vw : Value) (q : List Kon) (m S E : Nat) (w : World) (hSE : S < E) (hE : E ≤ 4294967296) (hm9 : m ≤ 900) (ok : OKP (psOf q)) (few : FewRuns (psOf q) m) (h : Parts w (BMP p t vk vc vw q)) :
    Calls Tryz.prog 25 #[.pointer (some ⟨p, 0, none⟩), .int .u64 (S : Int), .int .u64 (E : Int)] w fun ed w' => ed = .returned (.tuple #[]) ∧ ∃ vk' vc' vw' q', SS w (foot (BMP p t vk vc vw q)) w' (BMP p t vk' vc' vw' q') ∧ OKP (psOf q') ∧ FewRuns (psOf q') (m + 1) ∧
      ∀ x, x ∈ allN (psOf q') ↔ (x ∈ allN (psOf q) ∧ ¬ (S ≤ x ∧ x < E)) ∨ (x ∉ allN (psOf q) ∧ S ≤ x ∧ x < E) := by
  obtain ⟨hs, hhs⟩ : ∃ hs, hs = S / 65536 := ⟨_, rfl⟩
  obtain ⟨hl, hhl⟩ : ∃ hl, hl = (E - 1) / 65536 := ⟨_, rfl⟩
  obtain ⟨ls, hls⟩ : ∃ ls, ls = S % 65536 := ⟨_, rfl⟩
  obtain ⟨ll, hll⟩ : ∃ ll, ll = (E - 1) % 65536 := ⟨_, rfl⟩
  obtain ⟨E1, hE1⟩ : ∃ E1, E1 = E - 1 := ⟨_, rfl⟩
  obtain ⟨F, hF⟩ : ∃ F, F = foot (BMP p t vk vc vw q) := ⟨_, rfl⟩
  obtain ⟨N, hN⟩ : ∃ N, N = allN (psOf q) := ⟨_, rfl⟩
  have HA0 : Hid (FL w F p t m N S E w hs vk vc vw q) := Lib.hid ⟨by rw [hF]; exact SS.init h, ok, FewAt.start few hs, fun x => by
    have hno : ¬ FT S E hs x := by rw [hhs]; unfold FT; omega
    rw [hN]
    exact ⟨fun g => .inl ⟨g, hno⟩, fun g => g.elim (·.1) (fun g => absurd g.2 hno)⟩⟩
  rw [← hF, ← hN]
  have hb1 : hs ≤ hl := by omega
  have hb2 : hl < 65536 := by omega
  have hb3 : ls < 65536 := by omega
  have hb4 : ll < 65536 := by omega
  have hS1 : S < 4294967296 := by omega
  have e1 : (E : Int) - 1 = (E1 : Int) := by omega
  have hE1b : E1 < 4294967296 := by omega
  have HI := Lib.hid (fun (x : Nat) (W : World) (hx : x < 4294967296) => high_any x W hx)
  have HJ := Lib.hid (fun (x : Nat) (W : World) (hx : x < 4294967296) => low_any x W hx)
  have c1 := Lib.hid (high_any S w hS1)
  have c2 := Lib.hid (low_any S w hS1)
  have c3 := Lib.hid (high_any E1 w hE1b)
  have c4 := Lib.hid (low_any E1 w hE1b)
  rw [hE1, ← hhl] at c3
  rw [hE1, ← hll] at c4
  rw [← hhs] at c1
  rw [← hls] at c2
  rw [← hE1] at c3 c4
  have Hhs := Lib.hid hhs
  have Hhl := Lib.hid hhl
  have Hls := Lib.hid hls
  have Hll := Lib.hid hll
  have HE1 := Lib.hid hE1
  have HSE := Lib.hid hSE
  clear hhs hhl hls hll hF hN h ok few HI HJ
  have i1 : ¬ (E : Int) ≤ (S : Int) := by omega
  have i2 : ¬ (4294967296 : Int) < (E : Int) := by omega
  have i3 : ¬ (4294967296 : Int) < (S : Int) := by omega
  have q1 : IntKind.u32.wrap (S : Int) = (S : Int) := IntWalk.u32_in _ (by omega)
  have q2 : IntKind.u32.wrap (E1 : Int) = (E1 : Int) := IntWalk.u32_in _ (by omega)
  have q3 : IntKind.u32.wrap (hs : Int) = (hs : Int) := IntWalk.u32_in _ (by omega)
  have q4 : IntKind.u32.wrap (hl : Int) = (hl : Int) := IntWalk.u32_in _ (by omega)
  have q5 : IntKind.u32.wrap (ls : Int) = (ls : Int) := IntWalk.u32_in _ (by omega)
  have q6 : IntKind.u32.wrap (ll : Int) = (ll : Int) := IntWalk.u32_in _ (by omega)
  have q7 : IntKind.u64.wrap ((E : Int) - 1) = (E1 : Int) := by rw [e1]; exact IntWalk.u64_in _ (by omega)
  clear hSE hE1
  go_enter Tryz.func25, Tryz.ntmps25
  go_wp2_with (first
    | (go_at_call 32; first | (refine c1.out.mono ?_; rintro ed w1 ⟨rfl, rfl⟩) | (refine c3.out.mono ?_; rintro ed w1 ⟨rfl, rfl⟩))
    | (go_at_call 33; first | (refine c2.out.mono ?_; rintro ed w1 ⟨rfl, rfl⟩) | (refine c4.out.mono ?_; rintro ed w1 ⟨rfl, rfl⟩))
    | fail)
  clear c1 c2 c3 c4 q1 q2 q3 q4 q5 q6 q7 i1 i2 i3 e1
  go_loopw [11] (fun hb wr => ∃ (h : Nat) (vk vc vw : Value) (q : List Kon), hb = .int .u32 (h : Int) ∧ hs ≤ h ∧ h ≤ hl + 1 ∧ Hid (FL w F p t m N S E wr h vk vc vw q)) (fun hb _ => hl + 1 - (intOf hb).toNat)
  case atStart => exact ⟨hs, vk, vc, vw, q, rfl, Nat.le_refl _, by omega, HA0⟩
  case round =>
    clear HA0
    obtain ⟨h, vk, vc, vw, q, rfl, hh1, hh2, HA⟩ := hrel
    by_cases hlt : h ≤ hl
    · obtain ⟨k1, k2, k3⟩ := cs_cl HSE.out (show S / 65536 ≤ h by have := Hhs.out; omega) (show h ≤ (E - 1) / 65536 by have := Hhl.out; omega)
      have e1 : csOf S h = if h = hs then ls else 0 := by rw [Hhs.out, Hls.out]; rfl
      have e2 : clOf E h = if h = hl then ll else 65535 := by rw [Hhl.out, Hll.out]; rfl
      generalize hcs : csOf S h = cs at *
      generalize hcl : clOf E h = cl at *
      have Hcs := Lib.hid hcs
      have Hcl := Lib.hid hcl
      have K3 := Lib.hid k3
      clear hcs hcl k3
      have i1 : (h : Int) ≤ (hl : Int) := by omega
      have E1' := Lib.hid e1
      have E2' := Lib.hid e2
      clear e1 e2
      go_upto_if 51 with fail
      go_cut [12] (fun s12 wx => s12 = .int .u32 (cs : Int) ∧ wr = wx)
      case first =>
        have e1 := E1'.out
        by_cases hc : h = hs
        · rw [if_pos hc] at e1
          subst hc
          go_wp2
          go_meet
          case rel => exact ⟨by rw [e1], rfl⟩
        · rw [if_neg hc] at e1
          have i3 : ((h : Int) == (hs : Int)) = false := by rw [beq_eq_false_iff_ne]; omega
          have i4 : ¬ (h : Int) = (hs : Int) := by omega
          go_wp2
          go_meet
          case rel => exact ⟨by rw [e1]; rfl, rfl⟩
      case rest =>
        obtain ⟨rfl, rfl⟩ := hcut
        go_upto_if 56 with fail
        go_cut [13] (fun s13 wx => s13 = .int .u32 (cl : Int) ∧ wr = wx)
        case first =>
          have e2 := E2'.out
          by_cases hc : h = hl
          · rw [if_pos hc] at e2
            subst hc
            go_wp2
            go_meet
            case rel => exact ⟨by rw [e2], rfl⟩
          · rw [if_neg hc] at e2
            have i3 : ((h : Int) == (hl : Int)) = false := by rw [beq_eq_false_iff_ne]; omega
            have i4 : ¬ (h : Int) = (hl : Int) := by omega
            go_wp2
            go_meet
            case rel => exact ⟨by rw [e2]; rfl, rfl⟩
        case rest =>
          obtain ⟨rfl, rfl⟩ := hcut
          clear E1' E2'
          have hkeys := HA.out.ok.keys
          rw [psOf_keys] at hkeys
          have hkb : ∀ y ∈ q.map (·.key), y < 65536 := fun y hy => by
            obtain ⟨x, hx, rfl⟩ := List.mem_map.1 hy
            exact (HA.out.ok.2 (x.key, x.l) (List.mem_map.2 ⟨x, hx, rfl⟩)).1
          have hql : (q.map (·.key)).length ≤ 65536 := sorted_count hkeys 65536 hkb
          have hlb := lb_le (q.map (·.key)) h
          have GI := Lib.hid (getIndex_any p vk vc vw (q.map (·.key)) (q.map (·.v)) h wr hkeys hkb hql (by omega) (RA.of (Parts.left HA.out.ss.sep)))
          have i2 : IntKind.u16.wrap (h : Int) = (h : Int) := IntWalk.u16_in _ (by omega)
          obtain ⟨i, hi⟩ : ∃ i, i = lb (q.map (·.key)) h := ⟨_, rfl⟩
          rw [← hi] at hlb
          have Hi := Lib.hid hi
          by_cases hc : (q.map (·.key))[lb (q.map (·.key)) h]? = some h
          · have hbs : bsOf (q.map (·.key)) h = (i : Int) := by unfold bsOf; rw [if_pos hc, hi]
            rw [hbs] at GI
            rw [← hi, List.getElem?_map] at hc
            obtain ⟨x, hx, hxk⟩ := Option.map_eq_some_iff.1 hc
            have hil : i < (q.map (·.key)).length := by have := (List.getElem?_eq_some_iff.1 hx).1; simpa using this
            have GW := Lib.hid (getWritable_any p vk vc vw (q.map (·.key)) (q.map (·.v)) i x.v wr hil (by rw [List.getElem?_map, hx]; rfl) (RA.of (Parts.left HA.out.ss.sep)))
            obtain ⟨L, hK, hS⟩ := bmp_open HA.out.ss hx
            have hfz : (runsOf x.l).length ≤ 900 := by
              have := HA.out.few (x.key, x.l) (List.mem_map.2 ⟨x, List.mem_of_getElem? hx, rfl⟩)
              simp only [hxk, Nat.lt_irrefl, if_false] at this
              omega
            have hpl := KC.plain hK
            obtain ⟨tt, ad, fn, hv, n1, n2, n3, hAD⟩ := kc_not hK hfz
            have AD := hAD cs (cl + 1) wr (by omega) (by omega) hS.left.sep
            rw [show ((cl + 1 : Nat) : Int) = (cl : Int) + 1 by omega] at AD
            have HAD := Lib.hid AD
            have HS := Lib.hid hS
            have Hx := Lib.hid hx
            have Hxk := Lib.hid hxk
            have hset : (q.map (·.v)).set i x.v = q.map (·.v) := by
              have h1 : (q.map (·.v))[i]? = some x.v := by rw [List.getElem?_map, hx]; rfl
              obtain ⟨h2, h3⟩ := List.getElem?_eq_some_iff.1 h1
              rw [← h3, List.set_getElem_self]
            have Hset := Lib.hid hset
            rw [hv] at GW
            have SC := Lib.hid (fun (ct : TypeId) (cv : Value) (W : World) (hP : Parts W (RAL p t vk vc vw (q.map (·.key)) (q.map (·.v)))) => setContainer_ss p t vk vc vw (q.map (·.key)) (q.map (·.v)) i ct cv W hil hP)
            have RI := Lib.hid (fun (W : World) (hP : Parts W (RAL p t vk vc vw (q.map (·.key)) (q.map (·.v)))) (hk : ∀ v ∈ q.map (·.v), v.oneCell' = true) => removeAt_any p t vk vc vw (q.map (·.key)) (q.map (·.v)) i W hil hql hk hP)
            have Hone := Lib.hid (KAs_one (Parts.right HA.out.ss.sep))
            have hne9 : cs < cl + 1 := by omega
            clear hc hx hxk hK hS hAD AD hv hbs hkeys hkb hi hfz hpl hset
            generalize (q.map (·.key)).length = nk at *
            have i3 : (0 : Int) ≤ (i : Int) := by omega
            by_cases hemp : xorS x.l cs (cl + 1) = []
            · have Hemp := Lib.hid hemp
              have Hde := Lib.hid (show decide (xorS x.l cs (cl + 1) = []) = true from decide_eq_true hemp)
              clear hemp
              go_wp2_with (first
                | (go_at_call 34; refine GI.out.mono ?_; rintro ed w1 ⟨rfl, rfl⟩)
                | (go_at_call 35; refine GW.out.mono ?_; rintro ed w1 ⟨rfl, rfl⟩)
                | (go_at_call 40; refine (RI.out _ S4.out.right.left.sep Hone.out).mono ?_; rintro ed w8 ⟨rfl, vk8, vc8, vw8, hS8⟩; have HS8 := Lib.hid hS8; clear hS8)
                | ((with_reducible refine HAD.out.mono ?_); rintro ed w4 ⟨t4, v4, L4, rfl, hK4, hS4⟩; have S4 := Lib.hid (HS.out.frame hS4); obtain ⟨tt5, ad5, fd, hv5, o1, o2, o3, hEM⟩ := kr_empty hK4; simp only [Value.iface.injEq] at hv5; obtain ⟨rfl, rfl⟩ := hv5; rw [Hde.out] at hEM; have EM := Lib.hid hEM; clear hK4 hS4 hEM)
                | ((with_reducible refine (EM.out _ S4.out.left.sep).mono ?_); rintro ed w7 ⟨rfl, rfl⟩)
                | fail)
              go_roundw
              case rel =>
                have hB := bmp_del (v1 := x.v) (by rw [Hset.out]; exact S4.out) (by rw [Hset.out]; exact HS8.out)
                have hA := FL.del HA.out HSE.out (show S / 65536 ≤ h by have := Hhs.out; omega) (show h ≤ (E - 1) / 65536 by have := Hhl.out; omega) Hx.out Hxk.out (by rw [Hcs.out, Hcl.out]; exact Hemp.out) hB
                exact ⟨h + 1, vk8, vc8, vw8, _, by go_num, by omega, by omega, Lib.hid hA⟩
              case measure => simp only [intOf]; omega
            · have Hemp := Lib.hid hemp
              have Hde := Lib.hid (show decide (xorS x.l cs (cl + 1) = []) = false from decide_eq_false hemp)
              clear hemp
              go_wp2_with (first
                | (go_at_call 34; refine GI.out.mono ?_; rintro ed w1 ⟨rfl, rfl⟩)
                | (go_at_call 35; refine GW.out.mono ?_; rintro ed w1 ⟨rfl, rfl⟩)
                | (go_at_call 36; refine (SC.out _ _ _ S4.out.right.left.sep).mono ?_; rintro ed w5 ⟨rfl, hS6⟩; have HS6 := Lib.hid hS6; clear hS6)
                | ((with_reducible refine HAD.out.mono ?_); rintro ed w4 ⟨t4, v4, L4, rfl, hK4, hS4⟩; have S4 := Lib.hid (HS.out.frame hS4); obtain ⟨tt5, ad5, fd, hv5, o1, o2, o3, hEM⟩ := kr_empty hK4; simp only [Value.iface.injEq] at hv5; obtain ⟨rfl, rfl⟩ := hv5; rw [Hde.out] at hEM; have EM := Lib.hid hEM; obtain ⟨k4, hKC4⟩ := KR.some hK4 Hemp.out; have HKC4 := Lib.hid hKC4; clear hK4 hS4 hEM hKC4)
                | ((with_reducible refine (EM.out _ S4.out.left.sep).mono ?_); rintro ed w7 ⟨rfl, rfl⟩)
                | fail)
              go_roundw
              case rel =>
                have hB := bmp_shut (y := ⟨x.key, .iface t4 (.pointer (some ad5)), xorS x.l cs (cl + 1), k4, foot L4⟩) Hx.out rfl rfl HKC4.out S4.out HS6.out
                have hA := FL.set (y := ⟨x.key, .iface t4 (.pointer (some ad5)), xorS x.l cs (cl + 1), k4, foot L4⟩) HA.out HSE.out (show S / 65536 ≤ h by have := Hhs.out; omega) (show h ≤ (E - 1) / 65536 by have := Hhl.out; omega) Hx.out Hxk.out rfl (by rw [Hcs.out, Hcl.out]) (by rw [Hcs.out, Hcl.out]; exact Hemp.out) hB
                exact ⟨h + 1, vk, vc, vw, _, by go_num, by omega, by omega, Lib.hid hA⟩
              case measure => simp only [intOf]; omega
          · have hbs : bsOf (q.map (·.key)) h = - ((i : Int) + 1) := by unfold bsOf; rw [if_neg hc, hi]
            rw [hbs] at GI
            have RO := Lib.hid (fun (W : World) (A C : Int) (hA : A = (cs : Int)) (hC : C = (cl : Int)) => rangeOfOnes_int cs cl A C W hA hC k1 k2)
            have hlen : (q.map (·.key)).length < 65536 := by
              rcases Nat.lt_or_ge (q.map (·.key)).length 65536 with h' | h'
              · exact h'
              · exfalso
                apply hc
                have hmem : h ∈ q.map (·.key) := by
                  refine Decidable.byContradiction fun hno => ?_
                  have h1 := sorted_sub hkeys ((List.pairwise_lt_range' (s := 0) (n := 65536)).filter (fun x => decide (x ≠ h))) (fun x hx => by
                    rw [List.mem_filter, List.mem_range'_1]
                    have := hkb x hx
                    exact ⟨by omega, by simp; rintro rfl; exact hno hx⟩)
                  have h2 : ((List.range' 0 65536).filter (fun x => decide (x ≠ h))).length < (List.range' 0 65536).length := List.length_filter_lt_length_iff_exists.2 ⟨h, by rw [List.mem_range'_1]; omega, by simp⟩
                  rw [List.length_range'] at h2
                  omega
                obtain ⟨j, hj⟩ := List.getElem?_of_mem hmem
                rw [(bsOf_at hkeys hj).2]
                exact hj
            have IK := Lib.hid (fun (ct : TypeId) (cv : Value) (W : World) (I J : Int) (hI : I = (i : Int)) (hJ : J = (h : Int)) (hP : Parts W (RAL p t vk vc vw (q.map (·.key)) (q.map (·.v)))) (hone : ∀ v ∈ q.map (·.v), v.oneCell' = true) => insert_int p t vk vc vw (q.map (·.key)) (q.map (·.v)) i h I J ct cv W hI hJ hlb hlen hone hP)
            have Hc := Lib.hid hc
            clear hc hbs hkeys hkb hi hlen
            generalize (q.map (·.key)).length = nk at *
            have i3 : ¬ (0 : Int) ≤ - ((i : Int) + 1) := by omega
            go_upto_region 25 with (first
              | (go_at_call 34; refine GI.out.mono ?_; rintro ed w1 ⟨rfl, rfl⟩)
              | fail)
            have hone := KAs_one (Parts.right HA.out.ss.sep)
            have Hone := Lib.hid hone
            have HSd := Lib.hid HA.out.ss.drew
            clear hone
            go_region_held3 (fun _ => True) (first | trivial) (first
              | (go_at_call 38; (with_reducible refine (RO.out _ (IntKind.i64.wrap (cs : Int)) (IntKind.i64.wrap (cl : Int)) (IntWalk.i64_in _ (by omega)) (IntWalk.i64_in _ (by omega))).mono ?_); rintro ed w4 ⟨t4, v4, k4, L4, rfl, hK4, hS4, h24⟩; have HK4 := Lib.hid hK4; have HS4 := Lib.hid hS4; have S4 := Lib.hid (SS.join HSd.out hS4); have H24 := Lib.hid h24; clear hK4 hS4 h24; have hT1 := True.intro)
              | (go_at_call 37; (with_reducible refine (IK.out _ _ _ (IntKind.i64.wrap (IntKind.i64.wrap ((i : Int) + 1) - 1)) (h : Int) (by rw [IntWalk.i64_in ((i : Int) + 1) (by omega), IntWalk.i64_in _ (by omega)]; omega) rfl S4.out.right.left.sep Hone.out).mono ?_); rintro ed w5 ⟨rfl, vk5, vc5, vw5, hS5⟩; have HS5 := Lib.hid hS5; clear hS5; have hT2 := True.intro)
              | fail)
            all_goals
              go_wp2
              go_roundw
              case rel =>
                have hB := bmp_ins (y := ⟨h, .iface t4 v4, List.range' cs (cl + 1 - cs), k4, foot L4⟩) rfl HK4.out HSd.out HS4.out HS5.out
                rw [Hi.out] at hB
                have hA := FL.ins (y := ⟨h, .iface t4 v4, List.range' cs (cl + 1 - cs), k4, foot L4⟩) HA.out HSE.out hE (show S / 65536 ≤ h by have := Hhs.out; omega) (show h ≤ (E - 1) / 65536 by have := Hhl.out; omega) Hc.out rfl (by rw [Hcs.out, Hcl.out]) hB
                exact ⟨h + 1, vk5, vc5, vw5, _, by go_num, by omega, by omega, Lib.hid hA⟩
              case measure => simp only [intOf]; omega
    · obtain rfl : h = hl + 1 := by omega
      have i1 : ¬ (((hl + 1 : Nat) : Int) ≤ (hl : Int)) := by omega
      go_wp2
      go_end0
      have e9 : ∀ x, FT S E (hl + 1) x ↔ S ≤ x ∧ x < E := fun x => by
        have := HSE.out
        have := Hhl.out
        unfold FT
        exact ⟨fun h => ⟨h.1, h.2.1⟩, fun h => ⟨h.1, h.2, by omega⟩⟩
      refine ⟨rfl, vk, vc, vw, q, HA.out.ss, HA.out.ok, HA.out.few.fin, fun x => ?_⟩
      rw [HA.out.nums x]
      unfold FX
      rw [e9]
      exact or_congr (and_congr Iff.rfl (by omega)) Iff.rfl
end Go.Proofs
