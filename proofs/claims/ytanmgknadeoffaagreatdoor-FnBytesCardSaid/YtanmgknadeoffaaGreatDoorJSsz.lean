/-
  roaringArray.toBytes, Bitmap.ToBytes.
  How many bytes a set takes: Bitmap.GetSerializedSizeInBytes.
  impl.Bytes.
  Plain law: the parts of a set are told by its numbers.
  Plain laws: the parts of spec.Parts as numbers; the kind taken is no larger than the other one.
  impl.Kinds in both ways; which kinds a set's parts have is settled by its ranges and the way.
-/
import Derived.Test.YtanmgknadeoffaaGreatDoorKWt
import Derived.Test.YtanmgknadeoffaaGreatDoorJCc
import Derived.Test.YtanmgknadeoffaaGreatDoorJHr
import Derived.Test.YtanmgknadeoffaaGreatDoorJMd
import Derived.Test.YtanmgknadeoffaaGreatDoorKOfa
import Derived.Test.YtanmgknadeoffaaGreatDoorKQla
import Derived.Test.YtanmgknadeoffaaGreatDoorJQpl
import Derived.Test.YtanmgknadeoffaaGreatDoorKEf
namespace Go.Proofs
open Go.RowKit Go.Roar

set_option maxRecDepth 100000 in
set_option maxHeartbeats 4000000 in
theorem raToBytes_any (p : Nat) (t : TypeId) (vk vc vw : Value) (q : List Kon) (w : World) (ok : OKP (psOf q)) (h : Parts w (BMP p t vk vc vw q)) (hc : (allN (psOf q)).length ≤ 200000) :
    Calls Tryz.prog 34 #[.pointer (some ⟨p, 0, none⟩)] w fun e w' => ∃ v, e = .returned (.tuple #[v, .nilIface]) ∧ Own w' 1 5 v (bytesOf q).length (u8s (bytesOf q)) ∧ Mild w w' := by
  have hqr := QR.of h (fun b hb => Parts.lt h b hb)
  have hs := bytesOf_small ok (kinds_kon ok hqr) hc
  have k0 : Mild w (w.alloc (.cells #[.slice none 0 0, .int .i64 0, .int .i8 0] 112)) := (Kept.refl _ _).alloc _
  have C := Lib.hid (raWrite_any p t vk vc vw q w.heap.size w.heap.size _ ok (h.kept k0 (fun _ _ => id)) (hqr.mild k0) (Bf.new w) hs)
  have K0 := Lib.hid k0
  generalize bytesOf q = bs at *
  clear h hqr k0 hs
  go_enter Tryz.func34, Tryz.ntmps34
  go_wp2_with (first
    | (go_at_call 49; refine C.out.mono ?_; rintro ed w1 ⟨rfl, q1, q2⟩; have Q1 := Lib.hid q1; have Q2 := Lib.hid q2; clear q1 q2)
    | (go_at_call 50; refine (bufBytes_any _ _ _ _ (by exact Q1.out)).mono ?_; rintro ed w2 ⟨v, rfl, q3, q4⟩; have Q3 := Lib.hid q3; have Q4 := Lib.hid q4; clear q3 q4)
    | fail)
  go_ret2
  refine ⟨v, rfl, ?_, ?_⟩
  · have := Q3.out
    rwa [List.nil_append] at this
  · exact (Kept.then K0.out (Kept.ofBelow Q2.out) (fun b hb h => by omega)).trans Q4.out

set_option maxRecDepth 100000 in
set_option maxHeartbeats 1000000 in
theorem bmToBytes_any (p : Nat) (t : TypeId) (vk vc vw : Value) (q : List Kon) (w : World) (ok : OKP (psOf q)) (h : Parts w (BMP p t vk vc vw q)) (hc : (allN (psOf q)).length ≤ 200000) :
    Calls Tryz.prog 18 #[.pointer (some ⟨p, 0, none⟩)] w fun e w' => ∃ v, e = .returned (.tuple #[v, .nilIface]) ∧ Own w' 1 5 v (bytesOf q).length (u8s (bytesOf q)) ∧ Mild w w' := by
  have C := Lib.hid (raToBytes_any p t vk vc vw q w ok h hc)
  go_enter Tryz.func18, Tryz.ntmps18
  go_wp2_with (first
    | (go_at_call 34; refine C.out.mono ?_; rintro ed w1 ⟨v, rfl, q1, q2⟩; have Q1 := Lib.hid q1; have Q2 := Lib.hid q2; clear q1 q2)
    | fail)
  go_ret2
  exact ⟨v, rfl, Q1.out, Q2.out⟩
end Go.Proofs

namespace Go.Proofs
open Go.RowKit Go.Roar
theorem acSsz_any (p m c : Nat) (G : Option Addr) (w : World) (h : w.cell? ⟨p, 0, none⟩ = some (.slice G m c)) (hm : m ≤ 4096) :
    Calls Tryz.prog 168 #[.pointer (some ⟨p, 0, none⟩)] w fun e w' => e = .returned (.int .i64 ((2 * m : Nat) : Int)) ∧ Mild w w' := by
  go_enter Tryz.func168, Tryz.ntmps168
  go_wp2_with (first
    | (go_at_call 95; refine (acCardC_any p m c G w h).mono ?_; rintro ed w1 ⟨rfl, k1⟩)
    | fail)
  go_ret
  exact ⟨ret_int (by omega), k1⟩
theorem bcSsz_any (p c : Nat) (G : Option Addr) (w : World) (h : w.cell? ⟨p, 1, none⟩ = some (.slice G 1024 c)) :
    Calls Tryz.prog 245 #[.pointer (some ⟨p, 0, none⟩)] w fun e w' => e = .returned (.int .i64 ((8192 : Nat) : Int)) ∧ Mild w w' := by
  go_enter Tryz.func245, Tryz.ntmps245
  go_wp2
  go_ret
  exact ⟨rfl, Kept.refl _ _⟩
theorem rcSsz_any (p m c : Nat) (G : Option Addr) (w : World) (h : w.cell? ⟨p, 0, none⟩ = some (.slice G m c)) (hm : m ≤ 65536) :
    Calls Tryz.prog 324 #[.pointer (some ⟨p, 0, none⟩)] w fun e w' => e = .returned (.int .i64 ((2 + 4 * m : Nat) : Int)) ∧ Mild w w' := by
  go_enter Tryz.func324, Tryz.ntmps324
  go_wp2
  go_ret
  exact ⟨ret_int (by omega), Kept.refl _ _⟩
theorem ahead_ac_ssz (a : Addr) (w : World) : (nilAhead 368 84 (.pointer (some a)) "loop.example/pub-g03248/pub/roaring.serializedSizeInBytes").run Tryz.prog w = .ok (some false) w := by kernel_rfl
theorem method_ac_ssz (a : Addr) (w : World) : (method 368 84 (.pointer (some a)) "loop.example/pub-g03248/pub/roaring.serializedSizeInBytes").run Tryz.prog w = .ok (168, .pointer (some a)) w := by kernel_rfl
theorem call_ac_ssz (v : Value) (w : World) : (callFunc 168 #[v]).run Tryz.prog w = .ok (.enter 168 #[v]) w := by kernel_rfl
theorem ahead_bc_ssz (a : Addr) (w : World) : (nilAhead 368 85 (.pointer (some a)) "loop.example/pub-g03248/pub/roaring.serializedSizeInBytes").run Tryz.prog w = .ok (some false) w := by kernel_rfl
theorem method_bc_ssz (a : Addr) (w : World) : (method 368 85 (.pointer (some a)) "loop.example/pub-g03248/pub/roaring.serializedSizeInBytes").run Tryz.prog w = .ok (245, .pointer (some a)) w := by kernel_rfl
theorem call_bc_ssz (v : Value) (w : World) : (callFunc 245 #[v]).run Tryz.prog w = .ok (.enter 245 #[v]) w := by kernel_rfl
theorem ahead_rc_ssz (a : Addr) (w : World) : (nilAhead 368 141 (.pointer (some a)) "loop.example/pub-g03248/pub/roaring.serializedSizeInBytes").run Tryz.prog w = .ok (some false) w := by kernel_rfl
theorem method_rc_ssz (a : Addr) (w : World) : (method 368 141 (.pointer (some a)) "loop.example/pub-g03248/pub/roaring.serializedSizeInBytes").run Tryz.prog w = .ok (324, .pointer (some a)) w := by kernel_rfl
theorem call_rc_ssz (v : Value) (w : World) : (callFunc 324 #[v]).run Tryz.prog w = .ok (.enter 324 #[v]) w := by kernel_rfl
/-- The method serializedSizeInBytes of a container. -/
theorem kc_ssz {c : Value} {l : List Nat} {k : Nat} {L : List HA} (h : KC c l k L) : ∃ (tt : TypeId) (a : Addr) (fn : Nat), c = .iface tt (.pointer (some a)) ∧
    (∀ w, (nilAhead 368 tt (.pointer (some a)) "loop.example/pub-g03248/pub/roaring.serializedSizeInBytes").run Tryz.prog w = .ok (some false) w) ∧
    (∀ w, (method 368 tt (.pointer (some a)) "loop.example/pub-g03248/pub/roaring.serializedSizeInBytes").run Tryz.prog w = .ok (fn, .pointer (some a)) w) ∧
    (∀ (w : World), (callFunc fn #[.pointer (some a)]).run Tryz.prog w = .ok (.enter fn #[.pointer (some a)]) w) ∧
    ∀ (w : World), Parts w L → Calls Tryz.prog fn #[.pointer (some a)] w fun ed w' => ed = .returned (.int .i64 ((bodyOf (runsOf l) k).length : Int)) ∧ Mild w w' := by
  cases h with
  | arr p v _ hs hb h0 hn => exact ⟨_, _, _, rfl, fun w => ahead_ac_ssz _ w, fun w => method_ac_ssz _ w, fun w => call_ac_ssz _ w, fun w hp => by
      have ho : Own w 1 44 v l.length (u16s l) := hp.all (O 1 44 v l.length (u16s l)) (by simp [AC])
      have hB : Blk w p 147 [v] := hp.all (B p 147 [v]) (by simp [AC])
      obtain ⟨g, c, rfl, _, _⟩ := Own.shape ho (List.length_pos_iff.2 h0)
      have e : (bodyOf (runsOf l) 0).length = 2 * l.length := by rw [bodyOf_length, if_pos rfl, ← rgNums_length, (runsOf_ok (n := 65536) l hs hb).2]
      rw [e]
      exact acSsz_any p l.length c _ w (hB.cell 0) hn⟩
  | bmp p g c ws _ hl hb h0 hx => exact ⟨_, _, _, rfl, fun w => ahead_bc_ssz _ w, fun w => method_bc_ssz _ w, fun w => call_bc_ssz _ w, fun w hp => by
      have hB : Blk w p 145 [.int .i64 (l.length : Int), .slice (some ⟨g, 0, none⟩) 1024 c] := hp.all (B p 145 [.int .i64 (l.length : Int), .slice (some ⟨g, 0, none⟩) 1024 c]) (by simp [BC])
      have e : (bodyOf (runsOf l) 1).length = 8192 := by rw [bodyOf_length, if_neg (by decide), if_pos rfl]
      rw [e]
      exact bcSsz_any p c _ w (hB.cell 1)⟩
  | run p v rs _ hr h0 hx => exact ⟨_, _, _, rfl, fun w => ahead_rc_ssz _ w, fun w => method_rc_ssz _ w, fun w => call_rc_ssz _ w, fun w hp => by
      have hB : Blk w p 140 [v] := hp.all (B p 140 [v]) (by simp [RC])
      have ho := hp.all (O 2 178 v rs.length (ivs rs)) (by simp [RC])
      have hlen := rg_length rs 0 hr (fun _ _ => Nat.zero_le _) (by omega)
      obtain ⟨G, c, rfl, _⟩ := Own.sliceOf ho
      have e : (bodyOf (runsOf l) 2).length = 2 + 4 * rs.length := by rw [bodyOf_length, if_neg (by decide), if_neg (by decide), ← hx, runsOf_back hr]
      rw [e]
      exact rcSsz_any p rs.length c _ w (hB.cell 0) (by omega)⟩

theorem bmp_keys {w : World} {p : Nat} {t : TypeId} {vk vc vw : Value} {q : List Kon} (h : Parts w (BMP p t vk vc vw q)) : ∃ G c, w.cell? ⟨p, 0, none⟩ = some (.slice G q.length c) := by
  have hra := RA.of (Parts.left h)
  obtain ⟨G, c, hv, _⟩ := hra.keys.sliceOf
  rw [List.length_map] at hv
  exact ⟨G, c, by rw [hra.k, hv]⟩

set_option maxRecDepth 100000 in
set_option maxHeartbeats 4000000 in
theorem headerSz_any (p : Nat) (t : TypeId) (vk vc vw : Value) (q : List Kon) (w : World) (hq : q.length ≤ 65536) (h : Parts w (BMP p t vk vc vw q)) :
    Calls Tryz.prog 51 #[.pointer (some ⟨p, 0, none⟩)] w fun e w' => e = .returned (.int .u64 (((headOf (kdOf q)).length + 4 * q.length + offLen (kdOf q) : Nat) : Int)) ∧ w = w' := by
  obtain ⟨G, cK, hk⟩ := bmp_keys h
  have C := Lib.hid (raHasRun_any p t vk vc vw q w hq h)
  have hH := headOf_length (kdOf q)
  have hO : offLen (kdOf q) = if anyRuns (kdOf q) = false ∨ 4 ≤ (kdOf q).length then 4 * (kdOf q).length else 0 := rfl
  rw [kdOf_length] at hH hO
  have e : (q.map (·.k)).any (· == 2) = anyRuns (kdOf q) := rfl
  rw [e] at C
  generalize anyRuns (kdOf q) = b at *
  generalize q.length = n at *
  generalize (headOf (kdOf q)).length = H at *
  generalize offLen (kdOf q) = O at *
  have HH := Lib.hid hH
  have HO := Lib.hid hO
  clear h e hH hO
  cases b
  · have hz : H + 4 * n + O = 8 + 8 * n := by have := HH.out; have := HO.out; simp at *; omega
    rw [hz]
    go_enter Tryz.func51, Tryz.ntmps51
    go_wp2_with (first
      | (go_at_call 68; refine C.out.mono ?_; rintro ed w1 ⟨rfl, rfl⟩)
      | fail)
    go_ret
    exact ⟨ret_int (by omega), rfl⟩
  · by_cases h4 : n < 4
    · have hz : H + 4 * n + O = 4 + (n + 7) / 8 + 4 * n := by have := HH.out; have := HO.out; simp [show ¬ 4 ≤ n by omega] at *; omega
      rw [hz]
      have i1 : (n : Int) < 4 := by omega
      go_enter Tryz.func51, Tryz.ntmps51
      go_wp2_with (first
        | (go_at_call 68; refine C.out.mono ?_; rintro ed w1 ⟨rfl, rfl⟩)
        | fail)
      go_ret
      exact ⟨ret_int (by omega), rfl⟩
    · have hz : H + 4 * n + O = 4 + (n + 7) / 8 + 8 * n := by have := HH.out; have := HO.out; simp [show 4 ≤ n by omega] at *; omega
      rw [hz]
      have i1 : ¬ (n : Int) < 4 := by omega
      go_enter Tryz.func51, Tryz.ntmps51
      go_wp2_with (first
        | (go_at_call 68; refine C.out.mono ?_; rintro ed w1 ⟨rfl, rfl⟩)
        | fail)
      go_ret
      exact ⟨ret_int (by omega), rfl⟩

set_option maxRecDepth 100000 in
set_option maxHeartbeats 4000000 in
theorem raSsz_any (p : Nat) (t : TypeId) (vk vc vw : Value) (q : List Kon) (w : World) (ok : OKP (psOf q)) (h : Parts w (BMP p t vk vc vw q)) (hs : (bytesOf q).length ≤ 1000000000) :
    Calls Tryz.prog 35 #[.pointer (some ⟨p, 0, none⟩)] w fun e w' => e = .returned (.int .u64 ((bytesOf q).length : Int)) ∧ Mild w w' := by
  have hq := kon_len ok
  have C := Lib.hid (headerSz_any p t vk vc vw q w hq h)
  obtain ⟨G, c, hv, hx⟩ := (QR.of h (fun b hb => Parts.lt h b hb)).vals
  have hkons := (QR.of h (fun b hb => Parts.lt h b hb)).kons
  have Hx := Lib.hid hx
  have HK := Lib.hid hkons
  have hl := bytesOf_length ok
  have HB := Lib.hid (fun k => bodTo_le q k)
  have H0 := Lib.hid (show (bodTo q 0).length = 0 from rfl)
  have H1 := Lib.hid (fun (k : Nat) (x : Kon) (hx : q[k]? = some x) => show (bodTo q (k + 1)).length = (bodTo q k).length + (bodyOf (runsOf x.l) x.k).length by rw [bodTo_succ hx, List.length_append]; rfl)
  generalize (headOf (kdOf q)).length + 4 * q.length + offLen (kdOf q) = A at *
  generalize (bytesOf q).length = Z at *
  generalize hn : q.length = n at *
  have Hn := Lib.hid hn
  have Hl := Lib.hid hl
  clear hn hx hkons h hl
  go_enter Tryz.func35, Tryz.ntmps35
  go_wp2_with (first
    | (go_at_call 51; refine C.out.mono ?_; rintro ed w1 ⟨rfl, rfl⟩)
    | fail)
  go_loopw [13, 3] (fun i a wr => ∃ k : Nat, i = .int .i64 (k : Int) ∧ k ≤ n ∧ a = .int .u64 ((A + (bodTo q k).length : Nat) : Int) ∧ Hid (Mild w wr)) (fun i _ _ => n - (intOf i).toNat)
  case atStart => exact ⟨0, rfl, Nat.zero_le _, by rw [H0.out]; rfl, Lib.hid (Kept.refl _ _)⟩
  case round =>
    obtain ⟨k, rfl, hk, rfl, Hm⟩ := hrel
    by_cases hlt : k < n
    · obtain ⟨x, hxx⟩ : ∃ x, q[k]? = some x := ⟨_, List.getElem?_eq_getElem (by rw [Hn.out]; exact hlt)⟩
      obtain ⟨g, rfl, c1, _⟩ := Hx.out k x hxx
      obtain ⟨L, hL, hp, _⟩ := HK.out k x hxx
      have c1 := Hm.out.cell2 id c1
      have i1 : (k : Int) < (n : Int) := by omega
      obtain ⟨tt, a, fn, e1, e2, e3, e4, e5⟩ := kc_ssz hL
      rw [e1] at c1
      have E5 := Lib.hid (e5 wr (hp.kept Hm.out (fun _ _ => id)))
      have hb1 := H1.out k x hxx
      have hb2 := HB.out (k + 1)
      have hl := Hl.out
      generalize (bodyOf (runsOf x.l) x.k).length = z at *
      generalize hbk : (bodTo q k).length = bk at *
      have Hb1 := Lib.hid hb1
      have hz : A + bk + z ≤ 1000000000 := by omega
      clear hL hp e1 e5 hxx hb1 hb2 hl hbk
      go_wp2_with (first
        | (refine E5.out.mono ?_; rintro ed w2 ⟨rfl, k2⟩)
        | fail)
      go_roundw
      case rel => exact ⟨k + 1, by go_num, by omega, by rw [Hb1.out]; go_num, Lib.hid (Hm.out.trans k2)⟩
      case measure => simp only [intOf]; omega
    · obtain rfl : k = n := by omega
      go_wp2_with fail
      go_ret
      exact ⟨by rw [Hl.out]; rfl, Hm.out⟩

set_option maxRecDepth 100000 in
set_option maxHeartbeats 1000000 in
theorem bmSsz_any (p : Nat) (t : TypeId) (vk vc vw : Value) (q : List Kon) (w : World) (ok : OKP (psOf q)) (h : Parts w (BMP p t vk vc vw q)) (hs : (bytesOf q).length ≤ 1000000000) :
    Calls Tryz.prog 20 #[.pointer (some ⟨p, 0, none⟩)] w fun e w' => e = .returned (.int .u64 ((bytesOf q).length : Int)) ∧ Mild w w' := by
  have C := Lib.hid (raSsz_any p t vk vc vw q w ok h hs)
  go_enter Tryz.func20, Tryz.ntmps20
  go_wp2_with (first
    | (go_at_call 35; refine C.out.mono ?_; rintro ed w1 ⟨rfl, k1⟩)
    | fail)
  go_ret
  exact ⟨rfl, k1⟩
end Go.Proofs

namespace Go.Roar
open Go.RowKit Go.Proofs
theorem bytesOf_offs {q : List Kon} (ok : OKP (psOf q)) (hs : (bytesOf q).length ≤ 1000000000) : ∀ b ∈ offsOf (qsOf q) (kdOf q), b < 256 := by
  refine offsOf_byte ?_
  have h1 := bytesOf_length ok
  have h2 := kon_len ok
  rw [bodTo_all] at h1
  rw [kdOf_length]
  omega
theorem bytesOf_byte {q : List Kon} (ok : OKP (psOf q)) (hk : KindsOK (qsOf q) (kdOf q)) (hs : (bytesOf q).length ≤ 1000000000) : ∀ b ∈ bytesOf q, b < 256 :=
  wholeOf_byte (qs_parts ok).2 hk (by rw [qsOf_length]; exact kon_len ok) (bytesOf_offs ok hs)
theorem bytesOf_pos (q : List Kon) : 0 < (bytesOf q).length := whole_pos _ _ _
/-- The slice at D holds the bytes of the set q, whose numbers are those of s. -/
structure BytesP (s : List (Nat × Nat)) (q : List Kon) (w : World) (D C n : Nat) : Prop where
  ok : OKP (psOf q)
  nums : allN (psOf q) = rgNums s
  kinds : KindsOK (qsOf q) (kdOf q)
  rb : RB w (some ⟨D, 0, none⟩) n C (bytesOf q)
  small : (bytesOf q).length ≤ 1000000000
  len : n = (bytesOf q).length
/-- Of which kinds the parts of a set are that was made in the way m. -/
def KindsP (rs : List (Nat × Nat)) (m : Nat) (q : List Kon) : Prop := (m = 1 → ∀ x ∈ q, x.k = kindOf x.l) ∧ (m = 0 → ∀ x ∈ q, x.k = 2 ↔ F2 rs x.key = true)
theorem KindsP.of {rs : List (Nat × Nat)} {m : Nat} {q : List Kon} (hm : m < 2) (h : ((((m : Int) != 0) = true → ∀ x ∈ q, x.k = kindOf x.l) ∧ (((m : Int) != 0) = false → ∀ x ∈ q, x.k = 2 ↔ F2 rs x.key = true))) : KindsP rs m q := by
  refine ⟨fun e => h.1 ?_, fun e => h.2 ?_⟩
  · subst e; rfl
  · subst e; rfl
theorem RB.clone {w : World} {D C : Nat} {N : List Nat} (h : ∃ r, Blk w D 5 (u8s N ++ r)) (hc : N.length ≤ C) (hb : ∀ b ∈ N, b < 256) : RB w (some ⟨D, 0, none⟩) N.length C N := by
  obtain ⟨r, h⟩ := h
  refine ⟨rfl, hc, hb, fun _ => ⟨D, 0, rfl, fun j x hx => ?_⟩⟩
  rw [Nat.zero_add, h.cell j, List.getElem?_append_left (by rw [u8s_length]; exact (List.getElem?_eq_some_iff.1 hx).1)]
  exact u8s_at hx
end Go.Roar
namespace Go.Proofs
open Go.RowKit Go.Roar
theorem bit1b : ∀ m : Nat, m < 2 → bits .and .i64 (m : Int) 1 = (m : Int) := by
  intro m hm
  rcases (show m = 0 ∨ m = 1 by omega) with rfl | rfl <;> decide

set_option maxRecDepth 100000 in
set_option maxHeartbeats 4000000 in
theorem implBytes_any (u : Value) (rs s : List (Nat × Nat)) (m : Nat) (w : World) (h : Spans w u rs s) (hm : m < 2) :
    Calls Tryz.prog 7 #[u, .int .i64 (m : Int)] w fun e w' => ∃ (q : List Kon) (D C n : Nat), e = .returned (.tuple #[.slice (some ⟨D, 0, none⟩) n C, .int .u64 (n : Int)]) ∧ BytesP s q w' D C n ∧ KindsP rs m q ∧ Mild w w' := by
  have FT := Lib.hid (fits_of h rfl)
  have H := Lib.hid h
  obtain ⟨A, c, hu, _⟩ := h.sg
  clear h
  subst hu
  have k0 := bit1b m hm
  go_enter Tryz.func7, Tryz.ntmps7
  go_wp2_with (first
    | (go_at_call 16; (with_reducible refine FT.out.mono ?_); rintro ed w1 ⟨rfl, hm⟩; have M1 := Lib.hid hm; clear hm)
    | (go_at_call 17; (with_reducible refine (made_of (H.out.mild M1.out) _).mono ?_); rintro ed w2 ⟨p, vk, vc, vw, q, rfl, s1, s2, s3, s4, s5⟩; have S1 := Lib.hid s1; have S2 := Lib.hid s2; have S4 := Lib.hid s4; have S5 := Lib.hid s5; have HC := Lib.hid (show (allN (psOf q)).length ≤ 200000 from by rw [s4, rgNums_length]; exact H.out.cs); have HKD := Lib.hid (kinds_kon s2 (QR.of s1.sep (fun b hb => Parts.lt s1.sep b hb))); have HSM := Lib.hid (show (bytesOf q).length ≤ 1000000000 from Nat.le_trans (bytesOf_small s2 HKD.out HC.out) (by decide)); have TB := Lib.hid (bmToBytes_any p _ vk vc vw q w2 s2 s1.sep HC.out); have SZ := Lib.hid (fun (W : World) (k : Mild w2 W) => bmSsz_any p _ vk vc vw q W s2 (s1.sep.kept k (fun _ _ => id)) HSM.out); have HBY := Lib.hid (bytesOf_byte s2 HKD.out HSM.out); have HPO := Lib.hid (bytesOf_pos q); obtain ⟨N, hN⟩ : ∃ N, N = bytesOf q := ⟨_, rfl⟩; rw [← hN] at TB SZ HBY HPO HSM; have HN := Lib.hid hN; clear s1 s2 s3 s4 s5 hN)
    | (go_at_call 18; (with_reducible refine TB.out.mono ?_); rintro ed w3 ⟨v, rfl, t1, t2⟩; obtain ⟨g, cc, r, rfl, _⟩ := t1.open HPO.out; have RB3 := Lib.hid (RB.own t1 HBY.out); have T2 := Lib.hid t2; clear t1 t2)
    | (go_at_call 19; (with_reducible refine (clone_any g 0 _ N w3 RB3.out HPO.out HSM.out).mono ?_); rintro ed w4 ⟨D, C, rfl, d1, d2, d3, d4⟩; have D1 := Lib.hid d1; have D2 := Lib.hid d2; have D3 := Lib.hid d3; clear d1 d2 d3 d4)
    | (go_at_call 20; (with_reducible refine (SZ.out _ (T2.out.trans D3.out)).mono ?_); rintro ed w5 ⟨rfl, d5⟩; have D5 := Lib.hid d5; clear d5)
    | fail)
  go_ret2
  have e := HN.out
  subst e
  exact ⟨q, D, C, _, rfl, ⟨S2.out, S4.out, HKD.out, (RB.clone D1.out D2.out HBY.out).mild D5.out, HSM.out, rfl⟩, KindsP.of hm S5.out, ((((M1.out.trans S1.out.mild).trans T2.out).trans D3.out).trans D5.out)⟩
end Go.Proofs

namespace Go.Roar
theorem allN_cons (p : Nat × List Nat) (ps : List (Nat × List Nat)) : allN (p :: ps) = p.2.map (p.1 * 65536 + ·) ++ allN ps := by simp [allN]
theorem OKP.tail {p : Nat × List Nat} {ps : List (Nat × List Nat)} (h : OKP (p :: ps)) : OKP ps := ⟨(List.pairwise_cons.1 h.1).2, fun q hq => h.2 q (by simp [hq])⟩
theorem allN_split {p : Nat × List Nat} {ps : List (Nat × List Nat)} (h : OKP (p :: ps)) :
    (allN (p :: ps)).filter (fun x => decide (x / 65536 = p.1)) = p.2.map (p.1 * 65536 + ·) ∧ (allN (p :: ps)).filter (fun x => decide (x / 65536 ≠ p.1)) = allN ps := by
  have hp := h.2 p (by simp)
  have h1 : ∀ x ∈ p.2.map (p.1 * 65536 + ·), x / 65536 = p.1 := fun x hx => by
    obtain ⟨y, hy, rfl⟩ := List.mem_map.1 hx
    have := hp.2.2.1 y hy
    omega
  have h2 : ∀ x ∈ allN ps, x / 65536 ≠ p.1 := fun x hx => by
    obtain ⟨q, hq, e1, _⟩ := (allN_mem (fun q hq => (h.tail.2 q hq).2.2.1) x).1 hx
    have := (List.pairwise_cons.1 h.1).1 q hq
    omega
  rw [allN_cons, List.filter_append, List.filter_append]
  constructor
  · rw [List.filter_eq_self.2 (fun x hx => by simpa using h1 x hx), List.filter_eq_nil_iff.2 (fun x hx => by simpa using h2 x hx), List.append_nil]
  · rw [List.filter_eq_nil_iff.2 (fun x hx => by simpa using h1 x hx), List.filter_eq_self.2 (fun x hx => by simpa using h2 x hx), List.nil_append]
theorem map_inj_add (k : Nat) : ∀ {a b : List Nat}, a.map (k * 65536 + ·) = b.map (k * 65536 + ·) → a = b := fun {a b} h => by
  have := congrArg (List.map (· - k * 65536)) h
  rw [List.map_map, List.map_map] at this
  have e : ((fun x => x - k * 65536) ∘ fun x => k * 65536 + x) = id := by funext x; simp
  rw [e, List.map_id, List.map_id] at this
  exact this
theorem OKP_inj : ∀ {a b : List (Nat × List Nat)}, OKP a → OKP b → allN a = allN b → a = b
  | [], [], _, _, _ => rfl
  | [], q :: b, _, hb, h => by
    exfalso
    have hq := (hb.2 q (by simp)).2.2.2
    rw [allN_cons] at h
    have h1 := congrArg List.length h
    have h2 := List.length_pos_iff.2 hq
    have h3 : (allN []).length = 0 := rfl
    rw [List.length_append, List.length_map, h3] at h1
    omega
  | p :: a, [], ha, _, h => by
    exfalso
    have hq := (ha.2 p (by simp)).2.2.2
    rw [allN_cons] at h
    have h1 := congrArg List.length h
    have h2 := List.length_pos_iff.2 hq
    have h3 : (allN []).length = 0 := rfl
    rw [List.length_append, List.length_map, h3] at h1
    omega
  | p :: a, q :: b, ha, hb, h => by
    have hp := ha.2 p (by simp)
    have hq := hb.2 q (by simp)
    have hk : p.1 = q.1 := by
      rcases hx : p.2 with _ | ⟨x, l⟩
      · exact absurd hx hp.2.2.2
      · rcases hy : q.2 with _ | ⟨y, m⟩
        · exact absurd hy hq.2.2.2
        · have h0 := h
          rw [allN_cons, allN_cons, hx, hy] at h0
          simp only [List.map_cons, List.cons_append, List.cons.injEq] at h0
          have e1 := hp.2.2.1 x (by rw [hx]; simp)
          have e2 := hq.2.2.1 y (by rw [hy]; simp)
          omega
    obtain ⟨a1, a2⟩ := allN_split ha
    obtain ⟨b1, b2⟩ := allN_split hb
    rw [h, hk] at a1 a2
    rw [b1] at a1
    rw [b2] at a2
    have e1 := map_inj_add q.1 a1
    have e2 := OKP_inj ha.tail hb.tail a2.symm
    rw [e2, show p = q from Prod.ext hk e1.symm]
end Go.Roar

namespace Go.Roar
/-- The parts of spec.Parts, as numbers. -/
theorem parts_OKP {s : List (Nat × Nat)} (h : RgOK 4294967296 s) : OKP ((partsOf s).map fun q => (q.1, rgNums q.2)) ∧ allN ((partsOf s).map fun q => (q.1, rgNums q.2)) = rgNums s := by
  obtain ⟨h1, h2⟩ := partsOf_ok h
  refine ⟨⟨List.pairwise_map.2 h1.1, ?_⟩, ?_⟩
  · intro p hp
    obtain ⟨q, hq, rfl⟩ := List.mem_map.1 hp
    obtain ⟨a, b, c⟩ := h1.2 q hq
    exact ⟨a, rgNums_rising c, rgNums_lt c, rgNums_ne b⟩
  · rw [← h2]
    unfold allN partNums
    rw [List.flatMap_map]
/-- Of a part in few runs the kind taken is no larger than the other one. -/
theorem kind_small {rs : List (Nat × Nat)} (h : RgOK 65536 rs) (hl : rs.length ≤ 400) :
    (kindOf (rgNums rs) = 2 → 2 + 4 * rs.length ≤ (if rgCard rs ≤ 4096 then 2 * rgCard rs else 8192)) ∧ (kindOf (rgNums rs) ≠ 2 → (if rgCard rs ≤ 4096 then 2 * rgCard rs else 8192) ≤ 2 + 4 * rs.length) := by
  unfold kindOf
  rw [runsOf_back h, rgNums_length]
  generalize rgCard rs = n
  generalize rs.length = m at *
  constructor
  · intro hk
    split at hk
    · split <;> omega
    · split at hk <;> simp at hk
  · intro hk
    split at hk
    · exact absurd rfl hk
    · split <;> omega
theorem card_le_len {rs : List (Nat × Nat)} (h : ∀ r ∈ rs, r.2 < 65536) : rgCard rs ≤ rs.length * 65536 := by
  induction rs with
  | nil => simp [rgCard]
  | cons r l ih =>
    have h1 := ih (fun x hx => h x (by simp [hx]))
    have h2 := h r (by simp)
    rw [rgCard_cons, List.length_cons]
    omega
/-- What the walk asks of each part. -/
theorem small_at {qs : List (Nat × List (Nat × Nat))} (hp : PartsOK qs) (hf : FewRuns (qs.map fun q => (q.1, rgNums q.2)) 400) {i : Nat} {q : Nat × List (Nat × Nat)} (hq : qs[i]? = some q) :
    (∀ r ∈ q.2, r.1 ≤ r.2 ∧ r.2 < 4294967296) ∧ q.2.length ≤ 400 ∧ rgCard q.2 ≤ 30000000 ∧ (kindOf (rgNums q.2) = 2 → 2 + 4 * q.2.length ≤ (if rgCard q.2 ≤ 4096 then 2 * rgCard q.2 else 8192)) ∧ (kindOf (rgNums q.2) ≠ 2 → (if rgCard q.2 ≤ 4096 then 2 * rgCard q.2 else 8192) ≤ 2 + 4 * q.2.length) := by
  have hm := List.mem_of_getElem? hq
  obtain ⟨_, _, ho⟩ := hp.2 q hm
  have hl : q.2.length ≤ 400 := by
    have := hf (q.1, rgNums q.2) (List.mem_map.2 ⟨q, hm, rfl⟩)
    rwa [runsOf_back ho] at this
  have hc := card_le_len (fun r hr => (ho.1 r hr).2)
  exact ⟨fun r hr => by have := ho.1 r hr; omega, hl, by omega, kind_small ho hl⟩
end Go.Roar

namespace Go.Roar
open Go.RowKit Go.Proofs
theorem kinds_same {rs : List (Nat × Nat)} {m : Nat} {q1 q2 : List Kon} (hm : m < 2) (hp : psOf q1 = psOf q2) (k1 : KindsOK (qsOf q1) (kdOf q1)) (k2 : KindsOK (qsOf q2) (kdOf q2)) (h1 : KindsP rs m q1) (h2 : KindsP rs m q2) : kdOf q1 = kdOf q2 := by
  have hl : q1.length = q2.length := by rw [← psOf_length, hp, psOf_length]
  have hq : qsOf q1 = qsOf q2 := by
    have e : ∀ q : List Kon, qsOf q = (psOf q).map fun p => (p.1, runsOf p.2) := fun q => by unfold qsOf psOf; rw [List.map_map]; rfl
    rw [e, e, hp]
  apply List.ext_getElem?
  intro i
  have g : ∀ q : List Kon, (kdOf q)[i]? = (q[i]?).map (·.k) := fun q => by unfold kdOf; rw [List.getElem?_map]
  rw [g, g]
  rcases Nat.lt_or_ge i q1.length with hi | hi
  · obtain ⟨x, hx⟩ : ∃ x, q1[i]? = some x := ⟨_, List.getElem?_eq_getElem hi⟩
    obtain ⟨y, hy⟩ : ∃ y, q2[i]? = some y := ⟨_, List.getElem?_eq_getElem (by omega)⟩
    have hxy : (x.key, x.l) = (y.key, y.l) := Option.some.inj (by rw [← psOf_at hx, ← psOf_at hy, hp])
    have hkey : x.key = y.key := congrArg Prod.fst hxy
    have hl2 : x.l = y.l := congrArg Prod.snd hxy
    have a1 := k1.2 i (x.key, runsOf x.l) x.k (by unfold qsOf; rw [List.getElem?_map, hx]; rfl) (by rw [g, hx]; rfl)
    have a2 := k2.2 i (y.key, runsOf y.l) y.k (by unfold qsOf; rw [List.getElem?_map, hy]; rfl) (by rw [g, hy]; rfl)
    rw [hx, hy]
    show some x.k = some y.k
    have hmx := List.mem_of_getElem? hx
    have hmy := List.mem_of_getElem? hy
    rcases (show m = 0 ∨ m = 1 by omega) with rfl | rfl
    · have b1 := h1.2 rfl x hmx
      have b2 := h2.2 rfl y hmy
      rw [hkey] at b1
      have b3 : x.k = 2 ↔ y.k = 2 := b1.trans b2.symm
      dsimp only at a1 a2
      rw [hl2] at a1
      by_cases hx2 : x.k = 2
      · rw [hx2, b3.1 hx2]
      · rw [a1.resolve_left hx2, a2.resolve_left (fun h => hx2 (b3.2 h))]
    · rw [h1.1 rfl x hmx, h2.1 rfl y hmy, hl2]
  · rw [List.getElem?_eq_none hi, List.getElem?_eq_none (by omega)]
theorem qs_same {q : List Kon} {s : List (Nat × Nat)} (ok : OKP (psOf q)) (hs : RgOK 4294967296 s) (hn : allN (psOf q) = rgNums s) : qsOf q = partsOf s := by
  obtain ⟨o1, o2⟩ := parts_OKP hs
  have hp : psOf q = (partsOf s).map fun q => (q.1, rgNums q.2) := OKP_inj ok o1 (hn.trans o2.symm)
  have e : qsOf q = (psOf q).map fun p => (p.1, runsOf p.2) := by unfold qsOf psOf; rw [List.map_map]; rfl
  rw [e, hp, List.map_map]
  conv => rhs; rw [← List.map_id (partsOf s)]
  refine List.map_congr_left (fun y hy => ?_)
  show (y.1, runsOf (rgNums y.2)) = y
  rw [runsOf_back ((partsOf_ok hs).1.2 y hy).2.2]
end Go.Roar
namespace Go.Proofs
open Go.RowKit Go.Roar

set_option maxRecDepth 100000 in
set_option maxHeartbeats 4000000 in
theorem implKindsW_any (u : Value) (rs s : List (Nat × Nat)) (m : Nat) (w : World) (h : Spans w u rs s) (hm : m < 2) :
    Calls Tryz.prog 8 #[u, .int .i64 (m : Int)] w fun e w' => ∃ v q, e = .returned v ∧ Own w' 1 3 v q.length (intv (kdOf q)) ∧ Mild w w' ∧ OKP (psOf q) ∧ allN (psOf q) = rgNums s ∧ KindsOK (qsOf q) (kdOf q) ∧ KindsP rs m q := by
  have FT := Lib.hid (fits_of h rfl)
  have H := Lib.hid h
  obtain ⟨A, c, hu, _⟩ := h.sg
  clear h
  subst hu
  have k0 := bit1b m hm
  go_enter Tryz.func8, Tryz.ntmps8
  go_wp2_with (first
    | (go_at_call 16; (with_reducible refine FT.out.mono ?_); rintro ed w1 ⟨rfl, hm⟩; have M1 := Lib.hid hm; clear hm)
    | (go_at_call 17; (with_reducible refine (made_of (H.out.mild M1.out) _).mono ?_); rintro ed w2 ⟨p, vk, vc, vw, q, rfl, s1, s2, s3, s4, s5⟩; have S1 := Lib.hid s1; have S2 := Lib.hid s2; have S4 := Lib.hid s4; have S5 := Lib.hid s5; have HKD := Lib.hid (kinds_kon s2 (QR.of s1.sep (fun b hb => Parts.lt s1.sep b hb))); clear s1 s2 s3 s4 s5)
    | (go_at_call 21; (with_reducible refine (zzKinds_any p _ vk vc vw q w2 (BMP.len S2.out) S1.out.sep).mono ?_); rintro ed w3 ⟨v, rfl, hS⟩; have S6 := Lib.hid hS; clear hS)
    | fail)
  go_ret
  have ho : Own w3 1 3 v q.length (intv (q.map (·.k))) := S6.out.sep.all _ (List.mem_singleton.2 rfl)
  exact ⟨v, q, rfl, ho, M1.out.trans (S1.out.mild.trans S6.out.mild), S2.out, S4.out, HKD.out, KindsP.of hm S5.out⟩
end Go.Proofs
