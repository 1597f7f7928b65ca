/-
  roaringArray.toBytes, Bitmap.ToBytes.
  How many bytes a set takes: Bitmap.GetSerializedSizeInBytes.
  impl.Bytes.
  laws.FnBytesBack: the walk: it returns true.
-/
import Derived.Test.YtanmgknadeoffaaGreatDoorKWt
import Derived.Test.YtanmgknadeoffaaGreatDoorJCc
import Derived.Test.YtanmgknadeoffaaGreatDoorJHr
import Derived.Test.YtanmgknadeoffaaGreatDoorJMd
import Derived.Test.YtanmgknadeoffaaGreatDoorKOfa
import Derived.Test.YtanmgknadeoffaaGreatDoorKQla
import Derived.Test.YtanmgknadeoffaaGreatDoorJIs
namespace Go.Proofs
open Go.RowKit Go.Roar

set_option maxRecDepth 100000 in
set_option maxHeartbeats 4000000 in
theorem raToBytes_any (p : Nat) (t : TypeId) (vk vc vw : Value) (q : List Kon) (w : World) (ok : OKP (psOf q)) (h : Parts w (BMP p t vk vc vw q)) (hc : (allN (psOf q)).length ≤ 200000) :
    Calls Tryz.prog 34 #[.pointer (some ⟨p, 0, none⟩)] w fun e w' => ∃ v, e = .returned (.tuple #[v, .nilIface]) ∧ Own w' 1 5 v (bytesOf q).length (u8s (bytesOf q)) ∧ Mild w w' := by
  have hqr := QR.of h (fun b hb => Parts.lt h b hb)
  have hs := bytesOf_small ok (kinds_kon ok hqr) hc
  have k0 : Mild w (w.alloc (.cells #[.slice none 0 0, .int .i64 0, .int .i8 0] 112)) := (Kept.refl _ _).alloc _
  have C := Lib.hid (raWrite_any p t vk vc vw q w.heap.size w.heap.size _ ok (h.kept k0 (fun _ _ => id)) (hqr.mild k0) (Bf.new w) hs)
  have K0 := Lib.hid k0
  generalize bytesOf q = bs at *
  clear h hqr k0 hs
  go_enter Tryz.func34, Tryz.ntmps34
  go_wp2_with (first
    | (go_at_call 49; refine C.out.mono ?_; rintro ed w1 ⟨rfl, q1, q2⟩; have Q1 := Lib.hid q1; have Q2 := Lib.hid q2; clear q1 q2)
    | (go_at_call 50; refine (bufBytes_any _ _ _ _ (by exact Q1.out)).mono ?_; rintro ed w2 ⟨v, rfl, q3, q4⟩; have Q3 := Lib.hid q3; have Q4 := Lib.hid q4; clear q3 q4)
    | fail)
  go_ret2
  refine ⟨v, rfl, ?_, ?_⟩
  · have := Q3.out
    rwa [List.nil_append] at this
  · exact (Kept.then K0.out (Kept.ofBelow Q2.out) (fun b hb h => by omega)).trans Q4.out

set_option maxRecDepth 100000 in
set_option maxHeartbeats 1000000 in
theorem bmToBytes_any (p : Nat) (t : TypeId) (vk vc vw : Value) (q : List Kon) (w : World) (ok : OKP (psOf q)) (h : Parts w (BMP p t vk vc vw q)) (hc : (allN (psOf q)).length ≤ 200000) :
    Calls Tryz.prog 18 #[.pointer (some ⟨p, 0, none⟩)] w fun e w' => ∃ v, e = .returned (.tuple #[v, .nilIface]) ∧ Own w' 1 5 v (bytesOf q).length (u8s (bytesOf q)) ∧ Mild w w' := by
  have C := Lib.hid (raToBytes_any p t vk vc vw q w ok h hc)
  go_enter Tryz.func18, Tryz.ntmps18
  go_wp2_with (first
    | (go_at_call 34; refine C.out.mono ?_; rintro ed w1 ⟨v, rfl, q1, q2⟩; have Q1 := Lib.hid q1; have Q2 := Lib.hid q2; clear q1 q2)
    | fail)
  go_ret2
  exact ⟨v, rfl, Q1.out, Q2.out⟩
end Go.Proofs

namespace Go.Proofs
open Go.RowKit Go.Roar
theorem acSsz_any (p m c : Nat) (G : Option Addr) (w : World) (h : w.cell? ⟨p, 0, none⟩ = some (.slice G m c)) (hm : m ≤ 4096) :
    Calls Tryz.prog 168 #[.pointer (some ⟨p, 0, none⟩)] w fun e w' => e = .returned (.int .i64 ((2 * m : Nat) : Int)) ∧ Mild w w' := by
  go_enter Tryz.func168, Tryz.ntmps168
  go_wp2_with (first
    | (go_at_call 95; refine (acCardC_any p m c G w h).mono ?_; rintro ed w1 ⟨rfl, k1⟩)
    | fail)
  go_ret
  exact ⟨ret_int (by omega), k1⟩
theorem bcSsz_any (p c : Nat) (G : Option Addr) (w : World) (h : w.cell? ⟨p, 1, none⟩ = some (.slice G 1024 c)) :
    Calls Tryz.prog 245 #[.pointer (some ⟨p, 0, none⟩)] w fun e w' => e = .returned (.int .i64 ((8192 : Nat) : Int)) ∧ Mild w w' := by
  go_enter Tryz.func245, Tryz.ntmps245
  go_wp2
  go_ret
  exact ⟨rfl, Kept.refl _ _⟩
theorem rcSsz_any (p m c : Nat) (G : Option Addr) (w : World) (h : w.cell? ⟨p, 0, none⟩ = some (.slice G m c)) (hm : m ≤ 65536) :
    Calls Tryz.prog 324 #[.pointer (some ⟨p, 0, none⟩)] w fun e w' => e = .returned (.int .i64 ((2 + 4 * m : Nat) : Int)) ∧ Mild w w' := by
  go_enter Tryz.func324, Tryz.ntmps324
  go_wp2
  go_ret
  exact ⟨ret_int (by omega), Kept.refl _ _⟩
theorem ahead_ac_ssz (a : Addr) (w : World) : (nilAhead 368 84 (.pointer (some a)) "loop.example/pub-g03248/pub/roaring.serializedSizeInBytes").run Tryz.prog w = .ok (some false) w := by kernel_rfl
theorem method_ac_ssz (a : Addr) (w : World) : (method 368 84 (.pointer (some a)) "loop.example/pub-g03248/pub/roaring.serializedSizeInBytes").run Tryz.prog w = .ok (168, .pointer (some a)) w := by kernel_rfl
theorem call_ac_ssz (v : Value) (w : World) : (callFunc 168 #[v]).run Tryz.prog w = .ok (.enter 168 #[v]) w := by kernel_rfl
theorem ahead_bc_ssz (a : Addr) (w : World) : (nilAhead 368 85 (.pointer (some a)) "loop.example/pub-g03248/pub/roaring.serializedSizeInBytes").run Tryz.prog w = .ok (some false) w := by kernel_rfl
theorem method_bc_ssz (a : Addr) (w : World) : (method 368 85 (.pointer (some a)) "loop.example/pub-g03248/pub/roaring.serializedSizeInBytes").run Tryz.prog w = .ok (245, .pointer (some a)) w := by kernel_rfl
theorem call_bc_ssz (v : Value) (w : World) : (callFunc 245 #[v]).run Tryz.prog w = .ok (.enter 245 #[v]) w := by kernel_rfl
theorem ahead_rc_ssz (a : Addr) (w : World) : (nilAhead 368 141 (.pointer (some a)) "loop.example/pub-g03248/pub/roaring.serializedSizeInBytes").run Tryz.prog w = .ok (some false) w := by kernel_rfl
theorem method_rc_ssz (a : Addr) (w : World) : (method 368 141 (.pointer (some a)) "loop.example/pub-g03248/pub/roaring.serializedSizeInBytes").run Tryz.prog w = .ok (324, .pointer (some a)) w := by kernel_rfl
theorem call_rc_ssz (v : Value) (w : World) : (callFunc 324 #[v]).run Tryz.prog w = .ok (.enter 324 #[v]) w := by kernel_rfl
/-- The method serializedSizeInBytes of a container. -/
theorem kc_ssz {c : Value} {l : List Nat} {k : Nat} {L : List HA} (h : KC c l k L) : ∃ (tt : TypeId) (a : Addr) (fn : Nat), c = .iface tt (.pointer (some a)) ∧
    (∀ w, (nilAhead 368 tt (.pointer (some a)) "loop.example/pub-g03248/pub/roaring.serializedSizeInBytes").run Tryz.prog w = .ok (some false) w) ∧
    (∀ w, (method 368 tt (.pointer (some a)) "loop.example/pub-g03248/pub/roaring.serializedSizeInBytes").run Tryz.prog w = .ok (fn, .pointer (some a)) w) ∧
    (∀ (w : World), (callFunc fn #[.pointer (some a)]).run Tryz.prog w = .ok (.enter fn #[.pointer (some a)]) w) ∧
    ∀ (w : World), Parts w L → Calls Tryz.prog fn #[.pointer (some a)] w fun ed w' => ed = .returned (.int .i64 ((bodyOf (runsOf l) k).length : Int)) ∧ Mild w w' := by
  cases h with
  | arr p v _ hs hb h0 hn => exact ⟨_, _, _, rfl, fun w => ahead_ac_ssz _ w, fun w => method_ac_ssz _ w, fun w => call_ac_ssz _ w, fun w hp => by
      have ho : Own w 1 44 v l.length (u16s l) := hp.all (O 1 44 v l.length (u16s l)) (by simp [AC])
      have hB : Blk w p 147 [v] := hp.all (B p 147 [v]) (by simp [AC])
      obtain ⟨g, c, rfl, _, _⟩ := Own.shape ho (List.length_pos_iff.2 h0)
      have e : (bodyOf (runsOf l) 0).length = 2 * l.length := by rw [bodyOf_length, if_pos rfl, ← rgNums_length, (runsOf_ok (n := 65536) l hs hb).2]
      rw [e]
      exact acSsz_any p l.length c _ w (hB.cell 0) hn⟩
  | bmp p g c ws _ hl hb h0 hx => exact ⟨_, _, _, rfl, fun w => ahead_bc_ssz _ w, fun w => method_bc_ssz _ w, fun w => call_bc_ssz _ w, fun w hp => by
      have hB : Blk w p 145 [.int .i64 (l.length : Int), .slice (some ⟨g, 0, none⟩) 1024 c] := hp.all (B p 145 [.int .i64 (l.length : Int), .slice (some ⟨g, 0, none⟩) 1024 c]) (by simp [BC])
      have e : (bodyOf (runsOf l) 1).length = 8192 := by rw [bodyOf_length, if_neg (by decide), if_pos rfl]
      rw [e]
      exact bcSsz_any p c _ w (hB.cell 1)⟩
  | run p v rs _ hr h0 hx => exact ⟨_, _, _, rfl, fun w => ahead_rc_ssz _ w, fun w => method_rc_ssz _ w, fun w => call_rc_ssz _ w, fun w hp => by
      have hB : Blk w p 140 [v] := hp.all (B p 140 [v]) (by simp [RC])
      have ho := hp.all (O 2 178 v rs.length (ivs rs)) (by simp [RC])
      have hlen := rg_length rs 0 hr (fun _ _ => Nat.zero_le _) (by omega)
      obtain ⟨G, c, rfl, _⟩ := Own.sliceOf ho
      have e : (bodyOf (runsOf l) 2).length = 2 + 4 * rs.length := by rw [bodyOf_length, if_neg (by decide), if_neg (by decide), ← hx, runsOf_back hr]
      rw [e]
      exact rcSsz_any p rs.length c _ w (hB.cell 0) (by omega)⟩

theorem bmp_keys {w : World} {p : Nat} {t : TypeId} {vk vc vw : Value} {q : List Kon} (h : Parts w (BMP p t vk vc vw q)) : ∃ G c, w.cell? ⟨p, 0, none⟩ = some (.slice G q.length c) := by
  have hra := RA.of (Parts.left h)
  obtain ⟨G, c, hv, _⟩ := hra.keys.sliceOf
  rw [List.length_map] at hv
  exact ⟨G, c, by rw [hra.k, hv]⟩

set_option maxRecDepth 100000 in
set_option maxHeartbeats 4000000 in
theorem headerSz_any (p : Nat) (t : TypeId) (vk vc vw : Value) (q : List Kon) (w : World) (hq : q.length ≤ 65536) (h : Parts w (BMP p t vk vc vw q)) :
    Calls Tryz.prog 51 #[.pointer (some ⟨p, 0, none⟩)] w fun e w' => e = .returned (.int .u64 (((headOf (kdOf q)).length + 4 * q.length + offLen (kdOf q) : Nat) : Int)) ∧ w = w' := by
  obtain ⟨G, cK, hk⟩ := bmp_keys h
  have C := Lib.hid (raHasRun_any p t vk vc vw q w hq h)
  have hH := headOf_length (kdOf q)
  have hO : offLen (kdOf q) = if anyRuns (kdOf q) = false ∨ 4 ≤ (kdOf q).length then 4 * (kdOf q).length else 0 := rfl
  rw [kdOf_length] at hH hO
  have e : (q.map (·.k)).any (· == 2) = anyRuns (kdOf q) := rfl
  rw [e] at C
  generalize anyRuns (kdOf q) = b at *
  generalize q.length = n at *
  generalize (headOf (kdOf q)).length = H at *
  generalize offLen (kdOf q) = O at *
  have HH := Lib.hid hH
  have HO := Lib.hid hO
  clear h e hH hO
  cases b
  · have hz : H + 4 * n + O = 8 + 8 * n := by have := HH.out; have := HO.out; simp at *; omega
    rw [hz]
    go_enter Tryz.func51, Tryz.ntmps51
    go_wp2_with (first
      | (go_at_call 68; refine C.out.mono ?_; rintro ed w1 ⟨rfl, rfl⟩)
      | fail)
    go_ret
    exact ⟨ret_int (by omega), rfl⟩
  · by_cases h4 : n < 4
    · have hz : H + 4 * n + O = 4 + (n + 7) / 8 + 4 * n := by have := HH.out; have := HO.out; simp [show ¬ 4 ≤ n by omega] at *; omega
      rw [hz]
      have i1 : (n : Int) < 4 := by omega
      go_enter Tryz.func51, Tryz.ntmps51
      go_wp2_with (first
        | (go_at_call 68; refine C.out.mono ?_; rintro ed w1 ⟨rfl, rfl⟩)
        | fail)
      go_ret
      exact ⟨ret_int (by omega), rfl⟩
    · have hz : H + 4 * n + O = 4 + (n + 7) / 8 + 8 * n := by have := HH.out; have := HO.out; simp [show 4 ≤ n by omega] at *; omega
      rw [hz]
      have i1 : ¬ (n : Int) < 4 := by omega
      go_enter Tryz.func51, Tryz.ntmps51
      go_wp2_with (first
        | (go_at_call 68; refine C.out.mono ?_; rintro ed w1 ⟨rfl, rfl⟩)
        | fail)
      go_ret
      exact ⟨ret_int (by omega), rfl⟩

set_option maxRecDepth 100000 in
set_option maxHeartbeats 4000000 in
theorem raSsz_any (p : Nat) (t : TypeId) (vk vc vw : Value) (q : List Kon) (w : World) (ok : OKP (psOf q)) (h : Parts w (BMP p t vk vc vw q)) (hs : (bytesOf q).length ≤ 1000000000) :
    Calls Tryz.prog 35 #[.pointer (some ⟨p, 0, none⟩)] w fun e w' => e = .returned (.int .u64 ((bytesOf q).length : Int)) ∧ Mild w w' := by
  have hq := kon_len ok
  have C := Lib.hid (headerSz_any p t vk vc vw q w hq h)
  obtain ⟨G, c, hv, hx⟩ := (QR.of h (fun b hb => Parts.lt h b hb)).vals
  have hkons := (QR.of h (fun b hb => Parts.lt h b hb)).kons
  have Hx := Lib.hid hx
  have HK := Lib.hid hkons
  have hl := bytesOf_length ok
  have HB := Lib.hid (fun k => bodTo_le q k)
  have H0 := Lib.hid (show (bodTo q 0).length = 0 from rfl)
  have H1 := Lib.hid (fun (k : Nat) (x : Kon) (hx : q[k]? = some x) => show (bodTo q (k + 1)).length = (bodTo q k).length + (bodyOf (runsOf x.l) x.k).length by rw [bodTo_succ hx, List.length_append]; rfl)
  generalize (headOf (kdOf q)).length + 4 * q.length + offLen (kdOf q) = A at *
  generalize (bytesOf q).length = Z at *
  generalize hn : q.length = n at *
  have Hn := Lib.hid hn
  have Hl := Lib.hid hl
  clear hn hx hkons h hl
  go_enter Tryz.func35, Tryz.ntmps35
  go_wp2_with (first
    | (go_at_call 51; refine C.out.mono ?_; rintro ed w1 ⟨rfl, rfl⟩)
    | fail)
  go_loopw [13, 3] (fun i a wr => ∃ k : Nat, i = .int .i64 (k : Int) ∧ k ≤ n ∧ a = .int .u64 ((A + (bodTo q k).length : Nat) : Int) ∧ Hid (Mild w wr)) (fun i _ _ => n - (intOf i).toNat)
  case atStart => exact ⟨0, rfl, Nat.zero_le _, by rw [H0.out]; rfl, Lib.hid (Kept.refl _ _)⟩
  case round =>
    obtain ⟨k, rfl, hk, rfl, Hm⟩ := hrel
    by_cases hlt : k < n
    · obtain ⟨x, hxx⟩ : ∃ x, q[k]? = some x := ⟨_, List.getElem?_eq_getElem (by rw [Hn.out]; exact hlt)⟩
      obtain ⟨g, rfl, c1, _⟩ := Hx.out k x hxx
      obtain ⟨L, hL, hp, _⟩ := HK.out k x hxx
      have c1 := Hm.out.cell2 id c1
      have i1 : (k : Int) < (n : Int) := by omega
      obtain ⟨tt, a, fn, e1, e2, e3, e4, e5⟩ := kc_ssz hL
      rw [e1] at c1
      have E5 := Lib.hid (e5 wr (hp.kept Hm.out (fun _ _ => id)))
      have hb1 := H1.out k x hxx
      have hb2 := HB.out (k + 1)
      have hl := Hl.out
      generalize (bodyOf (runsOf x.l) x.k).length = z at *
      generalize hbk : (bodTo q k).length = bk at *
      have Hb1 := Lib.hid hb1
      have hz : A + bk + z ≤ 1000000000 := by omega
      clear hL hp e1 e5 hxx hb1 hb2 hl hbk
      go_wp2_with (first
        | (refine E5.out.mono ?_; rintro ed w2 ⟨rfl, k2⟩)
        | fail)
      go_roundw
      case rel => exact ⟨k + 1, by go_num, by omega, by rw [Hb1.out]; go_num, Lib.hid (Hm.out.trans k2)⟩
      case measure => simp only [intOf]; omega
    · obtain rfl : k = n := by omega
      go_wp2_with fail
      go_ret
      exact ⟨by rw [Hl.out]; rfl, Hm.out⟩

set_option maxRecDepth 100000 in
set_option maxHeartbeats 1000000 in
theorem bmSsz_any (p : Nat) (t : TypeId) (vk vc vw : Value) (q : List Kon) (w : World) (ok : OKP (psOf q)) (h : Parts w (BMP p t vk vc vw q)) (hs : (bytesOf q).length ≤ 1000000000) :
    Calls Tryz.prog 20 #[.pointer (some ⟨p, 0, none⟩)] w fun e w' => e = .returned (.int .u64 ((bytesOf q).length : Int)) ∧ Mild w w' := by
  have C := Lib.hid (raSsz_any p t vk vc vw q w ok h hs)
  go_enter Tryz.func20, Tryz.ntmps20
  go_wp2_with (first
    | (go_at_call 35; refine C.out.mono ?_; rintro ed w1 ⟨rfl, k1⟩)
    | fail)
  go_ret
  exact ⟨rfl, k1⟩
end Go.Proofs

namespace Go.Roar
open Go.RowKit Go.Proofs
theorem bytesOf_offs {q : List Kon} (ok : OKP (psOf q)) (hs : (bytesOf q).length ≤ 1000000000) : ∀ b ∈ offsOf (qsOf q) (kdOf q), b < 256 := by
  refine offsOf_byte ?_
  have h1 := bytesOf_length ok
  have h2 := kon_len ok
  rw [bodTo_all] at h1
  rw [kdOf_length]
  omega
theorem bytesOf_byte {q : List Kon} (ok : OKP (psOf q)) (hk : KindsOK (qsOf q) (kdOf q)) (hs : (bytesOf q).length ≤ 1000000000) : ∀ b ∈ bytesOf q, b < 256 :=
  wholeOf_byte (qs_parts ok).2 hk (by rw [qsOf_length]; exact kon_len ok) (bytesOf_offs ok hs)
theorem bytesOf_pos (q : List Kon) : 0 < (bytesOf q).length := whole_pos _ _ _
/-- The slice at D holds the bytes of the set q, whose numbers are those of s. -/
structure BytesP (s : List (Nat × Nat)) (q : List Kon) (w : World) (D C n : Nat) : Prop where
  ok : OKP (psOf q)
  nums : allN (psOf q) = rgNums s
  kinds : KindsOK (qsOf q) (kdOf q)
  rb : RB w (some ⟨D, 0, none⟩) n C (bytesOf q)
  small : (bytesOf q).length ≤ 1000000000
  len : n = (bytesOf q).length
/-- Of which kinds the parts of a set are that was made in the way m. -/
def KindsP (rs : List (Nat × Nat)) (m : Nat) (q : List Kon) : Prop := (m = 1 → ∀ x ∈ q, x.k = kindOf x.l) ∧ (m = 0 → ∀ x ∈ q, x.k = 2 ↔ F2 rs x.key = true)
theorem KindsP.of {rs : List (Nat × Nat)} {m : Nat} {q : List Kon} (hm : m < 2) (h : ((((m : Int) != 0) = true → ∀ x ∈ q, x.k = kindOf x.l) ∧ (((m : Int) != 0) = false → ∀ x ∈ q, x.k = 2 ↔ F2 rs x.key = true))) : KindsP rs m q := by
  refine ⟨fun e => h.1 ?_, fun e => h.2 ?_⟩
  · subst e; rfl
  · subst e; rfl
theorem RB.clone {w : World} {D C : Nat} {N : List Nat} (h : ∃ r, Blk w D 5 (u8s N ++ r)) (hc : N.length ≤ C) (hb : ∀ b ∈ N, b < 256) : RB w (some ⟨D, 0, none⟩) N.length C N := by
  obtain ⟨r, h⟩ := h
  refine ⟨rfl, hc, hb, fun _ => ⟨D, 0, rfl, fun j x hx => ?_⟩⟩
  rw [Nat.zero_add, h.cell j, List.getElem?_append_left (by rw [u8s_length]; exact (List.getElem?_eq_some_iff.1 hx).1)]
  exact u8s_at hx
end Go.Roar
namespace Go.Proofs
open Go.RowKit Go.Roar
theorem bit1b : ∀ m : Nat, m < 2 → bits .and .i64 (m : Int) 1 = (m : Int) := by
  intro m hm
  rcases (show m = 0 ∨ m = 1 by omega) with rfl | rfl <;> decide

set_option maxRecDepth 100000 in
set_option maxHeartbeats 4000000 in
theorem implBytes_any (u : Value) (rs s : List (Nat × Nat)) (m : Nat) (w : World) (h : Spans w u rs s) (hm : m < 2) :
    Calls Tryz.prog 7 #[u, .int .i64 (m : Int)] w fun e w' => ∃ (q : List Kon) (D C n : Nat), e = .returned (.tuple #[.slice (some ⟨D, 0, none⟩) n C, .int .u64 (n : Int)]) ∧ BytesP s q w' D C n ∧ KindsP rs m q ∧ Mild w w' := by
  have FT := Lib.hid (fits_of h rfl)
  have H := Lib.hid h
  obtain ⟨A, c, hu, _⟩ := h.sg
  clear h
  subst hu
  have k0 := bit1b m hm
  go_enter Tryz.func7, Tryz.ntmps7
  go_wp2_with (first
    | (go_at_call 16; (with_reducible refine FT.out.mono ?_); rintro ed w1 ⟨rfl, hm⟩; have M1 := Lib.hid hm; clear hm)
    | (go_at_call 17; (with_reducible refine (made_of (H.out.mild M1.out) _).mono ?_); rintro ed w2 ⟨p, vk, vc, vw, q, rfl, s1, s2, s3, s4, s5⟩; have S1 := Lib.hid s1; have S2 := Lib.hid s2; have S4 := Lib.hid s4; have S5 := Lib.hid s5; have HC := Lib.hid (show (allN (psOf q)).length ≤ 200000 from by rw [s4, rgNums_length]; exact H.out.cs); have HKD := Lib.hid (kinds_kon s2 (QR.of s1.sep (fun b hb => Parts.lt s1.sep b hb))); have HSM := Lib.hid (show (bytesOf q).length ≤ 1000000000 from Nat.le_trans (bytesOf_small s2 HKD.out HC.out) (by decide)); have TB := Lib.hid (bmToBytes_any p _ vk vc vw q w2 s2 s1.sep HC.out); have SZ := Lib.hid (fun (W : World) (k : Mild w2 W) => bmSsz_any p _ vk vc vw q W s2 (s1.sep.kept k (fun _ _ => id)) HSM.out); have HBY := Lib.hid (bytesOf_byte s2 HKD.out HSM.out); have HPO := Lib.hid (bytesOf_pos q); obtain ⟨N, hN⟩ : ∃ N, N = bytesOf q := ⟨_, rfl⟩; rw [← hN] at TB SZ HBY HPO HSM; have HN := Lib.hid hN; clear s1 s2 s3 s4 s5 hN)
    | (go_at_call 18; (with_reducible refine TB.out.mono ?_); rintro ed w3 ⟨v, rfl, t1, t2⟩; obtain ⟨g, cc, r, rfl, _⟩ := t1.open HPO.out; have RB3 := Lib.hid (RB.own t1 HBY.out); have T2 := Lib.hid t2; clear t1 t2)
    | (go_at_call 19; (with_reducible refine (clone_any g 0 _ N w3 RB3.out HPO.out HSM.out).mono ?_); rintro ed w4 ⟨D, C, rfl, d1, d2, d3, d4⟩; have D1 := Lib.hid d1; have D2 := Lib.hid d2; have D3 := Lib.hid d3; clear d1 d2 d3 d4)
    | (go_at_call 20; (with_reducible refine (SZ.out _ (T2.out.trans D3.out)).mono ?_); rintro ed w5 ⟨rfl, d5⟩; have D5 := Lib.hid d5; clear d5)
    | fail)
  go_ret2
  have e := HN.out
  subst e
  exact ⟨q, D, C, _, rfl, ⟨S2.out, S4.out, HKD.out, (RB.clone D1.out D2.out HBY.out).mild D5.out, HSM.out, rfl⟩, KindsP.of hm S5.out, ((((M1.out.trans S1.out.mild).trans T2.out).trans D3.out).trans D5.out)⟩
end Go.Proofs

namespace Go.Roar
open Go.RowKit Go.Proofs
theorem set_or6 {e : Ending} {w w' : World} {u : Value} {rs : List (Nat × Nat)} (hu : SG w u rs) (hb : ∀ r ∈ rs, r.1 < 4294967296 ∧ r.2 < 4294967296) (hT : Tab w) (hTs : 1 < w.heap.size) (k : Mild w w')
    (h : (∃ v, e = .returned (.tuple #[v, .bool false])) ∨ ∃ v s, e = .returned (.tuple #[v, .bool true]) ∧ RV w' v s ∧ RgOK 4294967296 s ∧ rgCard s ≤ 200000 ∧ s.length ≤ 400 ∧ rs.length ≤ 400 ∧ rgCard (keep rs) ≤ 200000 ∧ ∀ x, x ∈ rgNums s ↔ inR rs x) :
    ∃ v ok s, e = .returned (.tuple #[v, .bool ok]) ∧ (ok = true → RV w' v s ∧ Spans w' u rs s ∧ s.length ≤ 400) := by
  rcases h with ⟨v, rfl⟩ | ⟨v, s, rfl, h1, h2, h3, h4, h5, h6, h7⟩
  · exact ⟨v, false, [], rfl, fun h => by cases h⟩
  · exact ⟨v, true, s, rfl, fun _ => ⟨h1, ⟨Go.Roar.SG.mild hu k, hb, h5, h6, h2, h7, h3, fun i hi => k.cell2 id (hT i hi), Nat.lt_of_lt_of_le hTs k.size⟩, h4⟩⟩
end Go.Roar
namespace Go.Proofs
open Go.RowKit Go.Roar

set_option maxRecDepth 100000 in
set_option maxHeartbeats 4000000 in
theorem lawBk_any (u : Value) (rs : List (Nat × Nat)) (y : Nat) (w : World) (hu : SG w u rs) (hb : ∀ r ∈ rs, r.1 < 4294967296 ∧ r.2 < 4294967296) (hy : y < 256) (hT : Tab w) (hTs : 1 < w.heap.size) :
    Calls Tryz.prog 4 #[u, .int .u8 (y : Int)] w fun e w' => e = .returned (.bool true) ∧ Mild w w' := by
  have hSet := fun (h : rs.length ≤ 2147483647) => set_any made_any u rs w hu hb h
  have Hor := Lib.hid (fun (e : Ending) (w' : World) (k : Mild w w') => set_or6 (e := e) hu hb hT hTs k)
  obtain ⟨B, d, rfl, _⟩ := hu
  have HS := Lib.hid hSet
  clear hSet hT hb
  generalize hln : rs.length = nr at *
  have Hln := Lib.hid hln
  clear hln
  by_cases h1 : nr ≤ 2147483647
  · have Hset := Lib.hid (HS.out h1)
    have i1 : ¬ ((2147483647 : Int) < (nr : Int)) := by omega
    have r1 : ((y : Int)).tmod 2 = ((y % 2 : Nat) : Int) := by rw [Int.tmod_eq_emod_of_nonneg (by omega)]; omega
    have r2 : IntKind.i64.wrap ((y % 2 : Nat) : Int) = ((y % 2 : Nat) : Int) := IntWalk.i64_in _ (by omega)
    have hm2 : y % 2 < 2 := Nat.mod_lt _ (by decide)
    generalize y % 2 = m at *
    clear HS
    go_enter Tryz.func4, Tryz.ntmps4
    go_upto_if 21 with (first
      | (go_at_call 6; (with_reducible refine Hset.out.mono ?_); rintro ed w1 ⟨k1, hor⟩; obtain ⟨v1, ok, s, rfl, hok⟩ := Hor.out _ _ k1 hor; have K1 := Lib.hid k1; have Hok := Lib.hid hok; clear k1 hor hok))
    cases ok
    · go_wp2_with fail
      go_ret
      exact ⟨rfl, K1.out⟩
    · obtain ⟨rv, hsp, hl⟩ := Hok.out rfl
      have hsb : ∀ r ∈ s, r.1 < 4294967296 ∧ r.2 < 4294967296 := fun r hr => by have := hsp.ok.1 r hr; omega
      have BY := Lib.hid (implBytes_any _ rs s m w1 hsp hm2)
      have OB := Lib.hid (fun (q : List Kon) (D C n : Nat) (W : World) (k : Mild w1 W) (hq : BytesP s q W D C n) => show Calls Tryz.prog 13 #[.slice (some ⟨D, 0, none⟩) n C] W fun e w' => ∃ v, e = .returned (.tuple #[v, .int .i64 (n : Int), .bool true]) ∧ Own w' 2 48 v s.length (rgCells s) ∧ Mild W w' from by
        obtain ⟨q1, q2, q3, q4, q5, rfl⟩ := hq
        have hn : nums (psOf q) = rgNums s := q2
        refine (ofBytes_any D 0 C _ (psOf q) W q4 (bytesOf_pos _) q5 (by rw [← qs_psOf q1]; exact loadsA (qs_parts q1) q3 (offsOf_length _ _) (bytesOf_offs q1 q5) q5) (hsp.mild k).tab (hsp.mild k).tabs (by rw [hn]; exact rgNums_rising hsp.ok) (by rw [hn]; exact rgNums_lt hsp.ok) (by rw [hn, rgNums_length]; have := hsp.cs; omega)).mono ?_
        rintro e w' ⟨v, rfl, o1, o2, _⟩
        rw [hn, tell_back hsp.ok] at o1
        exact ⟨v, rfl, o1, o2⟩)
      have IS := Lib.hid (fun (l : Value) (W : World) (k : Mild w1 W) (h1 : SV W l s) => is_any l v1 s W h1 (rv.mild k) hsb (by omega))
      have HSP := Lib.hid hsp
      clear rv hsp Hok hsb
      go_wp2_with (first
        | (go_at_call 7; (with_reducible refine BY.out.mono ?_); rintro ed w2 ⟨q, D, C, n, rfl, t1, _, t2⟩; have T1 := Lib.hid t1; have K2 := Lib.hid t2; clear t1 t2)
        | (go_at_call 13; (with_reducible refine (OB.out _ _ _ _ _ K2.out T1.out).mono ?_); rintro ed w3 ⟨v3, rfl, t1, t2⟩; have S3 := Lib.hid (SV.own t1); have K3 := Lib.hid (K2.out.trans t2); clear t1 t2)
        | (go_at_call 14; (with_reducible refine (IS.out _ _ K3.out S3.out).mono ?_); rintro ed w4 ⟨rfl, k4⟩; have K4 := Lib.hid (K3.out.trans k4); clear k4)
        | fail)
      go_ret
      exact ⟨rfl, K1.out.trans K4.out⟩
  · have i1 : (2147483647 : Int) < (nr : Int) := by omega
    go_enter Tryz.func4, Tryz.ntmps4
    go_wp2_with fail
    go_ret
    exact ⟨rfl, Kept.refl _ _⟩
end Go.Proofs
