/-
  A run container that has no runs left: toEfficientContainer makes an empty array of it.
  runContainer16.iremoveReturnMinimized: one number is taken out of runs.
-/
import Derived.Test.YtjjijipfhnoomaaGreatDoorKEf
import Derived.Test.YtjjijipfhnoomaaGreatDoorJOr4
import Derived.Test.YtjjijipfhnoomaaGreatDoorJOrb
namespace Go.Proofs
open Go.RowKit Go.Roar
theorem rcCard0_any (p c : Nat) (G : Option Addr) (w : World) (h : w.cell? ⟨p, 0, none⟩ = some (.slice G 0 c)) :
    Calls Tryz.prog 58 #[.pointer (some ⟨p, 0, none⟩)] w fun ed w' => ed = .returned (.int .i64 0) ∧ w = w' := by
  go_enter Tryz.func58, Tryz.ntmps58
  go_wp2
  go_loopw [11, 3] (fun i n wr => i = .int .i64 0 ∧ n = .int .i64 0 ∧ w = wr) (fun _ _ _ => 0)
  case atStart => exact ⟨rfl, rfl, rfl⟩
  case round =>
    obtain ⟨rfl, rfl, rfl⟩ := hrel
    go_wp2
    go_ret
    exact ⟨rfl, rfl⟩
theorem rcToArr0_any (p c : Nat) (G : Option Addr) (w : World) (h : w.cell? ⟨p, 0, none⟩ = some (.slice G 0 c)) :
    Calls Tryz.prog 61 #[.pointer (some ⟨p, 0, none⟩)] w fun ed w' => ed = .returned (.pointer (some ⟨w.heap.size, 0, none⟩)) ∧ w' = w.alloc (.cells #[.slice none 0 0] 106) := by
  have k0 : Mild w (w.alloc (.cells #[.slice none 0 0] 106)) := (Kept.refl _ _).alloc _
  have h1 := k0.cell2 id h
  go_enter Tryz.func61, Tryz.ntmps61
  go_wp2_with (first
    | (go_at_call 43; refine (newArr_any _).mono ?_; rintro ed w1 ⟨rfl, rfl⟩)
    | fail)
  go_loopw [11] (fun i wr => i = .int .i64 0 ∧ wr = w.alloc (.cells #[.slice none 0 0] 106)) (fun _ _ => 0)
  case atStart => exact ⟨rfl, rfl⟩
  case round =>
    obtain ⟨rfl, rfl⟩ := hrel
    go_wp2
    go_ret
    exact ⟨rfl, rfl⟩

set_option maxRecDepth 100000 in
set_option maxHeartbeats 1000000 in
theorem rcEff0_any (p c : Nat) (G : Option Addr) (w : World) (h : w.cell? ⟨p, 0, none⟩ = some (.slice G 0 c)) :
    Calls Tryz.prog 49 #[.pointer (some ⟨p, 0, none⟩)] w fun ed w' => ed = .returned (.iface 82 (.pointer (some ⟨w.heap.size, 0, none⟩))) ∧ w' = w.alloc (.cells #[.slice none 0 0] 106) := by
  have SB := Lib.hid (rcBytes_any p G 0 c w (by omega) h)
  have RD := Lib.hid (rcCard0_any p c G w h)
  have TA := Lib.hid (rcToArr0_any p c G w h)
  have SA := Lib.hid (acSize_any 0 w (by omega))
  have MI := Lib.hid (minOf_any 8224 (2 * 0) w)
  clear h
  go_enter Tryz.func49, Tryz.ntmps49
  go_wp2_with (first
    | (go_at_call 56; refine SB.out.mono ?_; rintro ed w1 ⟨rfl, rfl⟩)
    | (go_at_call 57; refine (bmSize_any _).mono ?_; rintro ed w1 ⟨rfl, rfl⟩)
    | (go_at_call 58; refine RD.out.mono ?_; rintro ed w1 ⟨rfl, rfl⟩)
    | (go_at_call 59; refine SA.out.mono ?_; rintro ed w2 ⟨rfl, rfl⟩)
    | (go_at_call 60; refine MI.out.mono ?_; rintro ed w2 ⟨rfl, rfl⟩)
    | (go_at_call 61; refine TA.out.mono ?_; rintro ed w2 ⟨rfl, rfl⟩)
    | fail)
  go_ret
  exact ⟨rfl, rfl⟩
end Go.Proofs

namespace Go.Roar
open Go.RowKit Go.Proofs
theorem nil_arrR {w0 w : World} {F : List Nat} {p : Nat} {L : List HA} (h : SS w0 F w (B p 106 [.slice none 0 0] :: L)) : SS w0 F w (AC p (.slice none 0 0) [] ++ L) := by
  have h1 : SS w0 F w (O 1 57 (.slice none 0 0) 0 [] :: B p 106 [.slice none 0 0] :: L) := by
    refine ⟨⟨fun A hA => ?_, ?_⟩, fun b hb => h.sub b ?_, h.kept⟩
    · rcases List.mem_cons.1 hA with rfl | hA
      · exact ⟨rfl, .inl ⟨rfl, rfl⟩⟩
      · exact h.sep.all A hA
    · exact h.sep.nd
    · exact hb
  exact h1.swap
theorem runs_none {rs : List (Nat × Nat)} (h : rgNums rs = []) : rs = [] := by
  refine Decidable.byContradiction fun hne => ?_
  exact rgNums_ne hne h
theorem RC.at0 {w0 w : World} {F : List Nat} {p : Nat} {v : Value} (h : SS w0 F w (RC p v [])) : ∃ G c, v = .slice G 0 c ∧ w.cell? ⟨p, 0, none⟩ = some v := by
  have ho : Own w 2 114 v 0 [] := h.get (A := O 2 114 v 0 []) (by simp [RC, ivs])
  obtain ⟨G, c, hv, _⟩ := Own.sliceOf ho
  have hb : Blk w p 112 [v] := h.get (A := B p 112 [v]) (by simp [RC])
  exact ⟨G, c, hv, hb.cell 0⟩
end Go.Roar
namespace Go.Proofs
open Go.RowKit Go.Roar

set_option maxRecDepth 100000 in
set_option maxHeartbeats 1000000 in
theorem rcRem_any (p : Nat) (v : Value) (rs : List (Nat × Nat)) (x : Nat) (w : World) (hr : RgOK 65536 rs) (h0 : rs ≠ []) (hfew : rs.length ≤ 900) (hx : x < 65536) (h : Parts w (RC p v rs)) :
    Calls Tryz.prog 198 #[.pointer (some ⟨p, 0, none⟩), .int .u16 (x : Int)] w fun ed w' => RemPost (rgNums rs) x (foot (RC p v rs)) w ed w' := by
  have RO := Lib.hid (rcDel_any p v rs x w hr h0 hx h)
  have hfew2 := hfew
  unfold RemPost
  generalize hF : foot (RC p v rs) = F at *
  clear h hr
  by_cases he : wo (rgNums rs) x = []
  · have HE := Lib.hid he
    clear he
    go_enter Tryz.func198, Tryz.ntmps198
    go_wp2_with (first
      | (go_at_call 229; (with_reducible refine RO.out.mono ?_); rintro ed w1 ⟨b, v1, m, rfl, s1, s2, s3, s4⟩; obtain rfl := runs_none (s3.trans HE.out); obtain ⟨G1, c1, rfl, hc1⟩ := RC.at0 s4; have EF := Lib.hid (rcEff0_any p c1 G1 w1 hc1); have T4 := Lib.hid s4; clear s1 s2 s3 s4 hc1)
      | (go_at_call 49; (with_reducible refine EF.out.mono ?_); rintro ed w2 ⟨rfl, rfl⟩; have T5 := Lib.hid (nil_arrR (T4.out.new 106 [.slice none 0 0])))
      | fail)
    go_ret
    exact ⟨_, _, _, rfl, .inr ⟨HE.out, _, _, rfl, rfl⟩, T5.out.left⟩
  · have HE := Lib.hid he
    clear he
    go_enter Tryz.func198, Tryz.ntmps198
    go_wp2_with (first
      | (go_at_call 229; (with_reducible refine RO.out.mono ?_); rintro ed w1 ⟨b, v1, m, rfl, s1, s2, s3, s4⟩; have hm : m ≠ [] := (fun e => HE.out (by rw [← s3, e]; rfl)); have EF := Lib.hid (rcEff_any p v1 m w1 s1 hm (by omega) s4.sep); have T3 := Lib.hid s3; have T4 := Lib.hid s4; clear s1 s2 s3 s4 hm)
      | (go_at_call 49; (with_reducible refine EF.out.mono ?_); rintro ed w2 ⟨tt, v2, L, rfl, hK, hS⟩; have HK := Lib.hid hK; have HS := Lib.hid hS; clear hK hS)
      | fail)
    go_ret
    have hS2 := SS.step (R := []) T4.out (by rw [List.append_nil]) HS.out
    rw [List.append_nil] at hS2
    exact ⟨tt, v2, L, rfl, .inl ⟨_, by rw [← T3.out]; exact HK.out⟩, hS2⟩
end Go.Proofs
