/-
  toEfficientContainer of a container of any kind.
-/
import Derived.Test.YtjjijipfhnoomaaGreatDoorJSr
import Derived.Test.YtjjijipfhnoomaaGreatDoorKTa
import Derived.Test.YtjjijipfhnoomaaGreatDoorJAn
import Derived.Test.YtjjijipfhnoomaaGreatDoorJBn
import Derived.Test.YtjjijipfhnoomaaGreatDoorJAcb
namespace Go.Roar
open Go.RowKit Go.Proofs
/-- What the efficient container is. -/
def EffPost (l : List Nat) (F : List Nat) (w : World) (ed : Ending) (w' : World) : Prop :=
  ∃ t v L, ed = .returned (.iface t v) ∧ KC (.iface t v) l (kindOf l) L ∧ SS w F w' L
theorem kindOf_if {l : List Nat} {A M : Nat} (hA : A = 2 + 4 * (runsOf l).length) (hM : M = Nat.min 8224 (2 * l.length)) : kindOf l = if A < M then 2 else if l.length ≤ 4096 then 0 else 1 := by
  subst hA hM; rfl
theorem runs_le_len (l : List Nat) : (runsOf l).length ≤ l.length := by
  have := tells_length l []
  simpa [runsOf] using this
theorem ACV.of {w : World} {p : Nat} {v : Value} {l : List Nat} (h : Parts w (AC p v l)) (h0 : l ≠ []) : ACV w p l := by
  have ho : Own w 1 57 v l.length (u16s l) := h.all (O 1 57 v l.length (u16s l)) (by simp [AC])
  have hB : Blk w p 106 [v] := h.all (B p 106 [v]) (by simp [AC])
  obtain ⟨g, c, rfl, _, _⟩ := Own.shape ho (List.length_pos_iff.2 h0)
  exact ⟨g, c, hB.cell 0, fun i x hx => (Own.cellAt ho (u16s_get hx)).1⟩
theorem runs_pos {l : List Nat} (hs : Rising l) (hb : ∀ x ∈ l, x < 65536) (h0 : l ≠ []) : runsOf l ≠ [] := by
  intro e
  have := (runsOf_ok l hs hb).2
  rw [e] at this
  exact h0 this.symm
end Go.Roar
namespace Go.Proofs
open Go.RowKit Go.Roar

set_option maxRecDepth 100000 in
set_option maxHeartbeats 1000000 in
theorem acEff_any (p : Nat) (v : Value) (l : List Nat) (w : World) (hs : Rising l) (hb : ∀ x ∈ l, x < 65536) (h0 : l ≠ []) (hl : l.length ≤ 4096) (h : Parts w (AC p v l)) :
    Calls Tryz.prog 149 #[.pointer (some ⟨p, 0, none⟩)] w fun ed w' => EffPost l (foot (AC p v l)) w ed w' := by
  have hV := ACV.of h h0
  have hp := List.length_pos_iff.2 h0
  have hrl := runs_le_len l
  have NR := acRuns_any p l w hV hs hb (by omega) hp
  have LN : Calls Tryz.prog 74 #[.pointer (some ⟨p, 0, none⟩)] w fun ed w' => ed = .returned (.int .i64 (l.length : Int)) ∧ w = w' := by
    obtain ⟨g, c, hc, _⟩ := hV
    exact acLenV_any p _ _ c w hc
  have FA := Lib.hid (fun (h2 : 2 ≤ l.length) => fromArr_any p l w hV hs hb (by omega) h2)
  have hSelf : KC (.iface 82 (.pointer (some ⟨p, 0, none⟩))) l 0 (AC p v l) := KC.arr p v l hs hb h0 hl
  obtain ⟨hr1, hr2⟩ := runsOf_ok l hs hb
  have hrp := runs_pos hs hb h0
  have hrpos := List.length_pos_iff.2 hrp
  obtain ⟨A, hA⟩ : ∃ A, A = 2 + 4 * (runsOf l).length := ⟨_, rfl⟩
  obtain ⟨M, hM⟩ : ∃ M, M = Nat.min 8224 (2 * l.length) := ⟨_, rfl⟩
  have hk := kindOf_if hA hM
  have hM2 : M ≤ 2 * l.length := by rw [hM]; exact Nat.min_le_right _ _
  have SE := Lib.hid (rcSer_any (runsOf l).length w (by omega))
  have SA := Lib.hid (acSize_any l.length w (by omega))
  have MI := Lib.hid (minOf_any 8224 (2 * l.length) w)
  rw [← hA] at SE
  rw [← hM] at MI
  have HS := Lib.hid (SS.init h)
  have HR := Lib.hid (And.intro hr1 (And.intro hr2 hrp))
  have HSelf := Lib.hid hSelf
  have HNR := Lib.hid NR
  have HLN := Lib.hid LN
  have HK := Lib.hid hk
  unfold EffPost
  generalize foot (AC p v l) = F at *
  clear hV hs hb h0 h hSelf NR LN hr1 hr2 hrp hk hM
  generalize hn : l.length = n at *
  generalize hr : (runsOf l).length = r at *
  clear hn hr
  by_cases hc : A < M
  · have i1 : (A : Int) < (M : Int) := by omega
    have FA2 := Lib.hid (FA.out (by omega))
    go_enter Tryz.func149, Tryz.ntmps149
    go_wp2_with (first
      | (go_at_call 139; refine HNR.out.mono ?_; rintro ed w1 ⟨rfl, rfl⟩)
      | (go_at_call 154; refine SE.out.mono ?_; rintro ed w1 ⟨rfl, rfl⟩)
      | (go_at_call 57; refine (bmSize_any _).mono ?_; rintro ed w1 ⟨rfl, rfl⟩)
      | (go_at_call 74; refine HLN.out.mono ?_; rintro ed w1 ⟨rfl, rfl⟩)
      | (go_at_call 59; refine SA.out.mono ?_; rintro ed w1 ⟨rfl, rfl⟩)
      | (go_at_call 60; refine MI.out.mono ?_; rintro ed w1 ⟨rfl, rfl⟩)
      | (go_at_call 155; refine FA2.out.mono ?_; rintro ed w1 ⟨z, v2, rfl, hS2⟩)
      | fail)
    go_ret
    exact ⟨_, _, _, rfl, by rw [HK.out, if_pos hc]; exact KC.run z v2 _ l HR.out.1 HR.out.2.2 HR.out.2.1, hS2.wide F⟩
  · have i1 : ¬ (A : Int) < (M : Int) := by omega
    have i2 : (n : Int) ≤ 4096 := by omega
    go_enter Tryz.func149, Tryz.ntmps149
    go_wp2_with (first
      | (go_at_call 139; refine HNR.out.mono ?_; rintro ed w1 ⟨rfl, rfl⟩)
      | (go_at_call 154; refine SE.out.mono ?_; rintro ed w1 ⟨rfl, rfl⟩)
      | (go_at_call 57; refine (bmSize_any _).mono ?_; rintro ed w1 ⟨rfl, rfl⟩)
      | (go_at_call 74; refine HLN.out.mono ?_; rintro ed w1 ⟨rfl, rfl⟩)
      | (go_at_call 59; refine SA.out.mono ?_; rintro ed w1 ⟨rfl, rfl⟩)
      | (go_at_call 60; refine MI.out.mono ?_; rintro ed w1 ⟨rfl, rfl⟩)
      | fail)
    go_ret
    exact ⟨_, _, _, rfl, by rw [HK.out, if_neg hc, if_pos hl]; exact HSelf.out, HS.out⟩

set_option maxRecDepth 100000 in
set_option maxHeartbeats 1000000 in
theorem rcEff_any (p : Nat) (v : Value) (rs : List (Nat × Nat)) (w : World) (hr : RgOK 65536 rs) (h0 : rs ≠ []) (hfew : rs.length ≤ 1000) (h : Parts w (RC p v rs)) :
    Calls Tryz.prog 49 #[.pointer (some ⟨p, 0, none⟩)] w fun ed w' => EffPost (rgNums rs) (foot (RC p v rs)) w ed w' := by
  have hV := RCV.of h h0
  have hback := runsOf_back hr
  have hlen : (rgNums rs).length = rgCard rs := rgNums_length rs
  have hlt := rcard_le hr
  have SB : Calls Tryz.prog 56 #[.pointer (some ⟨p, 0, none⟩)] w fun ed w' => ed = .returned (.int .i64 ((2 + 4 * rs.length : Nat) : Int)) ∧ w = w' := by
    obtain ⟨g, c, _, hc, _⟩ := hV
    exact rcBytes_any p _ _ c w (by omega) hc
  have RD := Lib.hid (rcCard_any p v rs w hr h0 h)
  have hS0 := SS.init h
  have TA := Lib.hid (fun (hn : rgCard rs ≤ 4096) (W : World) (hP : Parts W (RC p v rs)) => rcToArray_any p v rs W hr h0 hn hP)
  have hSelf : KC (.iface 90 (.pointer (some ⟨p, 0, none⟩))) (rgNums rs) 2 (RC p v rs) := KC.run p v rs _ hr h0 rfl
  obtain ⟨A, hA⟩ : ∃ A, A = 2 + 4 * rs.length := ⟨_, rfl⟩
  obtain ⟨M, hM⟩ : ∃ M, M = Nat.min 8224 (2 * rgCard rs) := ⟨_, rfl⟩
  have hk : kindOf (rgNums rs) = if A < M then 2 else if (rgNums rs).length ≤ 4096 then 0 else 1 := kindOf_if (by rw [hback]; exact hA) (by rw [hlen]; exact hM)
  have hM2 : 4096 < rgCard rs → 8194 ≤ M := fun h => by rw [hM]; exact Nat.le_min.2 ⟨by omega, by omega⟩
  have SA := Lib.hid (fun (W : World) => acSize_any (rgCard rs) W hlt)
  have MI := Lib.hid (fun (W : World) => minOf_any 8224 (2 * rgCard rs) W)
  rw [← hM] at MI
  rw [← hA] at SB
  have HS := Lib.hid hS0
  have HR := Lib.hid (And.intro (rgNums_rising hr) (And.intro (rgNums_lt hr) (rgNums_ne h0)))
  have HSelf := Lib.hid hSelf
  have HSB := Lib.hid SB
  have HK := Lib.hid hk
  have Hlen := Lib.hid hlen
  unfold EffPost
  generalize hF : foot (RC p v rs) = F at *
  have HF := Lib.hid hF
  clear hF
  clear hV hback hr h0 h hSelf SB hk hM hS0 hlen
  generalize hn : rgCard rs = n at *
  clear hn
  by_cases hc : A < M
  · have i1 : (A : Int) < (M : Int) := by omega
    go_enter Tryz.func49, Tryz.ntmps49
    go_wp2_with (first
      | (go_at_call 56; refine HSB.out.mono ?_; rintro ed w1 ⟨rfl, rfl⟩)
      | (go_at_call 57; refine (bmSize_any _).mono ?_; rintro ed w1 ⟨rfl, rfl⟩)
      | (go_at_call 58; refine RD.out.mono ?_; rintro ed w1 ⟨rfl, k1⟩)
      | (go_at_call 59; refine (SA.out _).mono ?_; rintro ed w2 ⟨rfl, rfl⟩)
      | (go_at_call 60; refine (MI.out _).mono ?_; rintro ed w2 ⟨rfl, rfl⟩)
      | fail)
    go_ret
    exact ⟨_, _, _, rfl, by rw [HK.out, if_pos hc]; exact HSelf.out, HS.out.quiet k1⟩
  · have i1 : ¬ (A : Int) < (M : Int) := by omega
    have hn4 : n ≤ 4096 := by
      rcases Nat.lt_or_ge 4096 n with h | h
      · have := hM2 h; omega
      · exact h
    have i2 : (n : Int) ≤ 4096 := by omega
    have TA2 := Lib.hid (TA.out hn4)
    go_enter Tryz.func49, Tryz.ntmps49
    go_wp2_with (first
      | (go_at_call 56; refine HSB.out.mono ?_; rintro ed w1 ⟨rfl, rfl⟩)
      | (go_at_call 57; refine (bmSize_any _).mono ?_; rintro ed w1 ⟨rfl, rfl⟩)
      | (go_at_call 58; refine RD.out.mono ?_; rintro ed w1 ⟨rfl, k1⟩; have S1 := Lib.hid (HS.out.quiet k1))
      | (go_at_call 59; refine (SA.out _).mono ?_; rintro ed w2 ⟨rfl, rfl⟩)
      | (go_at_call 60; refine (MI.out _).mono ?_; rintro ed w2 ⟨rfl, rfl⟩)
      | (go_at_call 61; refine (TA2.out _ S1.out.sep).mono ?_; rintro ed w2 ⟨q, v2, rfl, hS2⟩)
      | fail)
    go_ret
    have S3 := SS.left (S1.out.on (by rw [HF.out]; exact hS2))
    exact ⟨_, _, _, rfl, by rw [HK.out, if_neg hc, if_pos (by rw [Hlen.out]; exact hn4)]; exact KC.arr q v2 _ HR.out.1 HR.out.2.1 HR.out.2.2 (by rw [Hlen.out]; exact hn4), S3⟩

set_option maxRecDepth 100000 in
set_option maxHeartbeats 1000000 in
theorem bcEff_any (p g c : Nat) (ws l : List Nat) (w : World) (hl : ws.length = 1024) (hb : ∀ x ∈ ws, x < 18446744073709551616) (h0 : 4096 < l.length) (hx : restFrom (bitOf ws) 0 = l) (hfew : (runsOf l).length ≤ 1000) (hT : Tab w)
    (h : Parts w (BC p l.length (.slice (some ⟨g, 0, none⟩) 1024 c) ws)) :
    Calls Tryz.prog 298 #[.pointer (some ⟨p, 0, none⟩)] w fun ed w' => EffPost l (foot (BC p l.length (.slice (some ⟨g, 0, none⟩) 1024 c) ws)) w ed w' := by
  have hB : Blk w p 122 [.int .i64 (l.length : Int), .slice (some ⟨g, 0, none⟩) 1024 c] := h.all (B p 122 [.int .i64 (l.length : Int), .slice (some ⟨g, 0, none⟩) 1024 c]) (by simp [BC])
  have ho : Own w 1 23 (.slice (some ⟨g, 0, none⟩) 1024 c) 1024 (u64s ws) := h.all (O 1 23 (.slice (some ⟨g, 0, none⟩) 1024 c) 1024 (u64s ws)) (by simp [BC])
  have hV : WV w g c ws := ⟨hl, hb, ho⟩
  have NR := bcRuns_any p g c ws l.length w (hB.cell 0) (by omega) (hB.cell 1) hV
  have FB := fromBmp_any p g c ws l.length w (hB.cell 0) (by omega) (hB.cell 1) hV hT (by rw [hx]; intro e; rw [e] at h0; simp at h0)
  have CD := bcCard_any p (l.length : Int) w (hB.cell 0)
  rw [hx] at NR FB
  have hsl : Rising l := by rw [← hx]; exact rest_sorted _
  have hbl : ∀ x ∈ l, x < 65536 := by rw [← hx]; exact rest_lt _
  have hlt := sorted_count hsl 65536 hbl
  obtain ⟨hr1, hr2⟩ := runsOf_ok l hsl hbl
  have hrp := runs_pos hsl hbl (fun e => by rw [e] at h0; simp at h0)
  obtain ⟨A, hA⟩ : ∃ A, A = 2 + 4 * (runsOf l).length := ⟨_, rfl⟩
  obtain ⟨M, hM⟩ : ∃ M, M = Nat.min 8224 (2 * l.length) := ⟨_, rfl⟩
  have hk := kindOf_if hA hM
  have hM2 : 8194 ≤ M := by rw [hM]; exact Nat.le_min.2 ⟨by omega, by omega⟩
  have SE := Lib.hid (rcSer_any (runsOf l).length w (by omega))
  have SA := Lib.hid (acSize_any l.length w hlt)
  have MI := Lib.hid (minOf_any 8224 (2 * l.length) w)
  rw [← hA] at SE
  rw [← hM] at MI
  have HR := Lib.hid (And.intro hr1 (And.intro hr2 hrp))
  have HNR := Lib.hid NR
  have HFB := Lib.hid FB
  have HCD := Lib.hid CD
  have HK := Lib.hid hk
  unfold EffPost
  generalize foot (BC p l.length (.slice (some ⟨g, 0, none⟩) 1024 c) ws) = F at *
  clear hB ho hV NR FB CD hsl hbl hr1 hr2 hrp hk hM hl hb hx h hT
  generalize l.length = n at *
  generalize (runsOf l).length = r at *
  have hc : A < M := by omega
  have i1 : (A : Int) < (M : Int) := by omega
  go_enter Tryz.func298, Tryz.ntmps298
  go_wp2_with (first
    | (go_at_call 288; refine HNR.out.mono ?_; rintro ed w1 ⟨rfl, rfl⟩)
    | (go_at_call 154; refine SE.out.mono ?_; rintro ed w1 ⟨rfl, rfl⟩)
    | (go_at_call 57; refine (bmSize_any _).mono ?_; rintro ed w1 ⟨rfl, rfl⟩)
    | (go_at_call 165; refine HCD.out.mono ?_; rintro ed w1 ⟨rfl, rfl⟩)
    | (go_at_call 59; refine SA.out.mono ?_; rintro ed w1 ⟨rfl, rfl⟩)
    | (go_at_call 60; refine MI.out.mono ?_; rintro ed w1 ⟨rfl, rfl⟩)
    | (go_at_call 303; refine HFB.out.mono ?_; rintro ed w1 ⟨z, v2, rfl, hS2⟩)
    | fail)
  go_ret
  exact ⟨_, _, _, rfl, by rw [HK.out, if_pos hc]; exact KC.run z v2 _ l HR.out.1 HR.out.2.2 HR.out.2.1, hS2.wide F⟩
end Go.Proofs
