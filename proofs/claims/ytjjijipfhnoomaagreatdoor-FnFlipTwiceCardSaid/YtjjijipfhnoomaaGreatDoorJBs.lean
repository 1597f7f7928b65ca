/-
  roaring.binarySearch: the place of a number in a rising list.
  roaringArray.binarySearch: the place of a key among rising keys.
  roaringArray: what its block holds, and the contracts of getIndex, getWritableContainerAtIndex, setContainerAtIndex.
-/
import Derived.Test.YtjjijipfhnoomaaGreatDoorJHeap
import Derived.Test.YtjjijipfhnoomaaGreatDoorProg
import Derived.LoopTactic
import Derived.Outline
namespace Go.Proofs
open Go.RowKit Go.Roar

set_option maxHeartbeats 400000 in
theorem binarySearch_any (b cap : Nat) (t : TypeId) (l : List Nat) (r : List Value) (x : Nat) (w : World) (hs : Rising l) (hl : ∀ y ∈ l, y < 65536) (hlen : l.length ≤ 65536) (hx : x < 65536)
    (hb : Blk w b t (u16s l ++ r)) :
    Calls Tryz.prog 52 #[.slice (some ⟨b, 0, none⟩) l.length cap, .int .u16 x] w fun e w' => e = .returned (.int .i64 (bsOf l x)) ∧ w = w' := by
  have hn := lb_le l x
  have hcell : ∀ (m y : Nat), l[m]? = some y → w.cell? ⟨b, m, none⟩ = some (.int .u16 (y : Int)) := fun m y h => (hb.cell m).trans (u16s_at h r)
  have hlo := lb_below hs x
  have hhi := lb_above hs x
  have hat := fun m (h : l[m]? = some x) => bsOf_at hs h
  have hno := @bsOf_not l x
  have hbd : ∀ (m y : Nat), l[m]? = some y → y < 65536 := fun m y h => hl y (List.mem_of_getElem? h)
  have hlt : ∀ (m y : Nat), l[m]? = some y → m < l.length := fun m y h => (List.getElem?_eq_some_iff.1 h).1
  have hget : ∀ m, m < l.length → ∃ y : Nat, l[m]? = some y := fun m h => ⟨l[m], List.getElem?_eq_getElem _⟩
  generalize hlen' : l.length = len at *
  generalize hn' : lb l x = n at *
  generalize hR : bsOf l x = R at *
  have Hlo := Lib.hid hlo
  have Hhi := Lib.hid hhi
  have Hcell := Lib.hid hcell
  have Hat := Lib.hid hat
  have Hno := Lib.hid hno
  have Hget := Lib.hid hget
  have Hbd := Lib.hid hbd
  have Hb := Lib.hid hb
  have Hlt := Lib.hid hlt
  have Hs := Lib.hid hs
  clear hlt hlo hhi hcell hat hno hget hbd hb hs hl hlen' hn' hR
  go_enter Tryz.func52, Tryz.ntmps52
  go_wp2
  go_loop [5, 6] (fun lo hi => ∃ (i : Nat) (h : Int), lo = .int .i64 i ∧ hi = .int .i64 h ∧ i ≤ n ∧ h < len ∧ n ≤ h + 1 ∧ Hid (∀ y, l[(h + 1).toNat]? = some y → x < y)) (fun lo hi => (intOf hi + 1 - intOf lo).toNat)
  case atStart => exact ⟨0, (len : Int) - 1, rfl, rfl, by omega, by omega, by omega, fun y h => by rw [show ((len : Int) - 1 + 1).toNat = len from by omega] at h; have := Hlt.out len y h; omega⟩
  case round =>
    obtain ⟨i, h, rfl, rfl, hl, hh, hnh, hend⟩ := hrel
    by_cases hlt : (i : Int) + 16 ≤ h
    · obtain ⟨m, hm⟩ : ∃ m : Nat, ((i : Int) + h) / 2 = m := ⟨(((i : Int) + h) / 2).toNat, by omega⟩
      obtain ⟨y, hy⟩ := Hget.out m (by omega)
      have hx' : w.cell? ⟨b, (((i : Int) + h) / 2).toNat, none⟩ = some (.int .u16 (y : Int)) := by rw [hm]; simpa using Hcell.out m y hy
      have y1 := Hbd.out m y hy
      have Hm := Lib.hid hm
      have Hy := Lib.hid hy
      clear hm hy
      go_wp2
      · have hq : y < x := by omega
        have hm := Hm.out
        have : m < n := by
          rcases Nat.lt_or_ge m n with h' | h'
          · exact h'
          · have := Hhi.out m y h' Hy.out; omega
        go_round
        case rel => exact ⟨m + 1, h, by rw [hm]; go_num, rfl, by omega, by omega, by omega, hend⟩
        case measure => simp only [intOf]; omega
      · have hq : x < y := by omega
        have hm := Hm.out
        have : n ≤ m := by
          rcases Nat.lt_or_ge m n with h' | h'
          · have := Hlo.out m y h' Hy.out; omega
          · exact h'
        go_round
        case rel => exact ⟨i, (m : Int) - 1, rfl, by rw [hm], by omega, by omega, by omega, fun z h => by rw [show ((m : Int) - 1 + 1).toNat = m from by omega, Hy.out] at h; cases h; exact hq⟩
        case measure => simp only [intOf]; omega
      · have hyx : y = x := by omega
        have hm := Hm.out
        have hy := Hy.out
        subst hyx
        have h2 := (Hat.out m hy).1
        go_ret
        exact ⟨ret_int (by rw [hm, h2]), rfl⟩
    · have h16 : h ≤ i + 15 := by omega
      go_wp2
      go_loop [5] (fun lo => ∃ (j : Nat), lo = .int .i64 j ∧ i ≤ j ∧ j ≤ n) (fun lo => (len - (intOf lo).toNat))
      case atStart => exact ⟨i, rfl, Nat.le_refl _, hl⟩
      case round =>
        obtain ⟨j, rfl, hij, hjn⟩ := hrel
        by_cases hjh : (j : Int) ≤ h
        · obtain ⟨y, hy⟩ := Hget.out j (by omega)
          have hx' : w.cell? ⟨b, j, none⟩ = some (.int .u16 (y : Int)) := Hcell.out j y hy
          have y1 := Hbd.out j y hy
          have Hy := Lib.hid hy
          clear hy
          by_cases hxy : y < x
          · have hjn' : j < n := by
              rcases Nat.lt_or_ge j n with h' | h'
              · exact h'
              · have := Hhi.out j y h' Hy.out; omega
            go_wp2
            go_round
            case rel => exact ⟨j + 1, by go_num, by omega, by omega⟩
            case measure => simp only [intOf]; omega
          · have hjn' : n = j := by
              rcases Nat.lt_or_ge j n with h' | h'
              · have := Hlo.out j y h' Hy.out; omega
              · omega
            by_cases hyx : y = x
            · have hyi : ((y : Int) == (x : Int)) = true := by simp [hyx]
              have Hyx := Lib.hid hyx
              have Hjn := Lib.hid hjn'
              clear hyx hjn'
              go_wp2
              have h2 := (Hat.out j (by rw [← Hyx.out]; exact Hy.out)).1
              go_ret
              exact ⟨ret_int (by rw [h2]), rfl⟩
            · have hyi : ((y : Int) == (x : Int)) = false := by simp; omega
              have h2 := Hno.out (by intro h; rw [hjn', Hy.out] at h; exact hyx (Option.some.inj h))
              have Hjn := Lib.hid hjn'
              have H2 := Lib.hid h2
              clear hjn' h2
              go_wp2
              go_ret
              exact ⟨ret_int (by rw [H2.out, Hjn.out]), rfl⟩
        · have hjn' : n = j := by omega
          have h2 := Hno.out (by
            intro hx'
            have := hend.out x (by rw [show (h + 1).toNat = n from by omega]; exact hx')
            omega)
          go_wp2
          go_ret
          exact ⟨ret_int (by first | rfl | rw [h2, hjn']), rfl⟩
end Go.Proofs

namespace Go.Proofs
open Go.RowKit Go.Roar

set_option maxHeartbeats 400000 in
theorem raSearch_any (p b cap : Nat) (t : TypeId) (l : List Nat) (r : List Value) (x : Nat) (w : World) (hs : Rising l) (hl : ∀ y ∈ l, y < 65536) (hlen : l.length ≤ 65536) (hx : x < 65536)
    (hp : w.cell? ⟨p, 0, none⟩ = some (.slice (some ⟨b, 0, none⟩) l.length cap)) (hb : Blk w b t (u16s l ++ r)) :
    Calls Tryz.prog 47 #[.pointer (some ⟨p, 0, none⟩), .int .i64 0, .int .i64 (l.length : Int), .int .u16 x] w fun e w' => e = .returned (.int .i64 (bsOf l x)) ∧ w = w' := by
  have hn := lb_le l x
  have hcell : ∀ (m y : Nat), l[m]? = some y → w.cell? ⟨b, m, none⟩ = some (.int .u16 (y : Int)) := fun m y h => (hb.cell m).trans (u16s_at h r)
  have hlo := lb_below hs x
  have hhi := lb_above hs x
  have hat := fun m (h : l[m]? = some x) => bsOf_at hs h
  have hno := @bsOf_not l x
  have hbd : ∀ (m y : Nat), l[m]? = some y → y < 65536 := fun m y h => hl y (List.mem_of_getElem? h)
  have hlt : ∀ (m y : Nat), l[m]? = some y → m < l.length := fun m y h => (List.getElem?_eq_some_iff.1 h).1
  have hget : ∀ m, m < l.length → ∃ y : Nat, l[m]? = some y := fun m h => ⟨l[m], List.getElem?_eq_getElem _⟩
  generalize hlen' : l.length = len at *
  generalize hn' : lb l x = n at *
  generalize hR : bsOf l x = R at *
  have Hlo := Lib.hid hlo
  have Hhi := Lib.hid hhi
  have Hcell := Lib.hid hcell
  have Hat := Lib.hid hat
  have Hno := Lib.hid hno
  have Hget := Lib.hid hget
  have Hbd := Lib.hid hbd
  have Hb := Lib.hid hb
  have Hlt := Lib.hid hlt
  have Hs := Lib.hid hs
  clear hlt hlo hhi hcell hat hno hget hbd hb hs hl hlen' hn' hR
  go_enter Tryz.func47, Tryz.ntmps47
  go_wp2
  go_loop [9, 10] (fun lo hi => ∃ (i : Nat) (h : Int), lo = .int .i64 i ∧ hi = .int .i64 h ∧ i ≤ n ∧ h < len ∧ n ≤ h + 1 ∧ Hid (∀ y, l[(h + 1).toNat]? = some y → x < y)) (fun lo hi => (intOf hi + 1 - intOf lo).toNat)
  case atStart => exact ⟨0, (len : Int) - 1, rfl, rfl, by omega, by omega, by omega, fun y h => by rw [show ((len : Int) - 1 + 1).toNat = len from by omega] at h; have := Hlt.out len y h; omega⟩
  case round =>
    obtain ⟨i, h, rfl, rfl, hl, hh, hnh, hend⟩ := hrel
    by_cases hlt : (i : Int) + 16 ≤ h
    · obtain ⟨m, hm⟩ : ∃ m : Nat, (i : Int) + (h - (i : Int)) / 2 = m := ⟨((i : Int) + (h - (i : Int)) / 2).toNat, by omega⟩
      obtain ⟨y, hy⟩ := Hget.out m (by omega)
      have hx' : w.cell? ⟨b, ((i : Int) + (h - (i : Int)) / 2).toNat, none⟩ = some (.int .u16 (y : Int)) := by rw [hm]; simpa using Hcell.out m y hy
      have y1 := Hbd.out m y hy
      have Hm := Lib.hid hm
      have Hy := Lib.hid hy
      clear hm hy
      go_wp2
      · have hq : y < x := by omega
        have hm := Hm.out
        have : m < n := by
          rcases Nat.lt_or_ge m n with h' | h'
          · exact h'
          · have := Hhi.out m y h' Hy.out; omega
        go_round
        case rel => exact ⟨m + 1, h, by rw [hm]; go_num, rfl, by omega, by omega, by omega, hend⟩
        case measure => simp only [intOf]; omega
      · have hq : x < y := by omega
        have hm := Hm.out
        have : n ≤ m := by
          rcases Nat.lt_or_ge m n with h' | h'
          · have := Hlo.out m y h' Hy.out; omega
          · exact h'
        go_round
        case rel => exact ⟨i, (m : Int) - 1, rfl, by rw [hm], by omega, by omega, by omega, fun z h => by rw [show ((m : Int) - 1 + 1).toNat = m from by omega, Hy.out] at h; cases h; exact hq⟩
        case measure => simp only [intOf]; omega
      · have hyx : y = x := by omega
        have hm := Hm.out
        have hy := Hy.out
        subst hyx
        have h2 := (Hat.out m hy).1
        go_ret
        exact ⟨ret_int (by rw [hm, h2]), rfl⟩
    · have h16 : h ≤ i + 15 := by omega
      go_wp2
      go_loop [9] (fun lo => ∃ (j : Nat), lo = .int .i64 j ∧ i ≤ j ∧ j ≤ n) (fun lo => (len - (intOf lo).toNat))
      case atStart => exact ⟨i, rfl, Nat.le_refl _, hl⟩
      case round =>
        obtain ⟨j, rfl, hij, hjn⟩ := hrel
        by_cases hjh : (j : Int) ≤ h
        · obtain ⟨y, hy⟩ := Hget.out j (by omega)
          have hx' : w.cell? ⟨b, j, none⟩ = some (.int .u16 (y : Int)) := Hcell.out j y hy
          have y1 := Hbd.out j y hy
          have Hy := Lib.hid hy
          clear hy
          by_cases hxy : y < x
          · have hjn' : j < n := by
              rcases Nat.lt_or_ge j n with h' | h'
              · exact h'
              · have := Hhi.out j y h' Hy.out; omega
            go_wp2
            go_round
            case rel => exact ⟨j + 1, by go_num, by omega, by omega⟩
            case measure => simp only [intOf]; omega
          · have hjn' : n = j := by
              rcases Nat.lt_or_ge j n with h' | h'
              · have := Hlo.out j y h' Hy.out; omega
              · omega
            by_cases hyx : y = x
            · have hyi : ((y : Int) == (x : Int)) = true := by simp [hyx]
              have Hyx := Lib.hid hyx
              have Hjn := Lib.hid hjn'
              clear hyx hjn'
              go_wp2
              have h2 := (Hat.out j (by rw [← Hyx.out]; exact Hy.out)).1
              go_ret
              exact ⟨ret_int (by rw [h2]), rfl⟩
            · have hyi : ((y : Int) == (x : Int)) = false := by simp; omega
              have h2 := Hno.out (by intro h; rw [hjn', Hy.out] at h; exact hyx (Option.some.inj h))
              have Hjn := Lib.hid hjn'
              have H2 := Lib.hid h2
              clear hjn' h2
              go_wp2
              go_ret
              exact ⟨ret_int (by rw [H2.out, Hjn.out]), rfl⟩
        · have hjn' : n = j := by omega
          have h2 := Hno.out (by
            intro hx'
            have := hend.out x (by rw [show (h + 1).toNat = n from by omega]; exact hx')
            omega)
          go_wp2
          go_ret
          exact ⟨ret_int (by first | rfl | rw [h2, hjn']), rfl⟩
end Go.Proofs

namespace Go.Proofs
open Go.RowKit Go.Roar

/-- Block p is a roaringArray (or a Bitmap) with the keys ks and the containers cs, none of which is shared. -/
structure RA (w : World) (p : Nat) (vk vc vw : Value) (ks : List Nat) (cs : List Value) : Prop where
  blk : ∃ t, Blk w p t [vk, vc, vw, .bool false]
  keys : Own w 1 57 vk ks.length (u16s ks)
  conts : Own w 1 68 vc ks.length cs
  cows : Own w 1 4 vw ks.length (List.replicate ks.length (.bool false))

theorem RA.k {w : World} {p : Nat} {vk vc vw : Value} {ks : List Nat} {cs : List Value} (h : RA w p vk vc vw ks cs) : w.cell? ⟨p, 0, none⟩ = some vk := by
  obtain ⟨t, hb⟩ := h.blk; exact hb.cell 0
theorem RA.c {w : World} {p : Nat} {vk vc vw : Value} {ks : List Nat} {cs : List Value} (h : RA w p vk vc vw ks cs) : w.cell? ⟨p, 1, none⟩ = some vc := by
  obtain ⟨t, hb⟩ := h.blk; exact hb.cell 1
theorem RA.w {w : World} {p : Nat} {vk vc vw : Value} {ks : List Nat} {cs : List Value} (h : RA w p vk vc vw ks cs) : w.cell? ⟨p, 2, none⟩ = some vw := by
  obtain ⟨t, hb⟩ := h.blk; exact hb.cell 2

set_option maxHeartbeats 400000 in
theorem getIndex_any (p : Nat) (vk vc vw : Value) (ks : List Nat) (cs : List Value) (x : Nat) (w : World) (hs : Rising ks) (hl : ∀ y ∈ ks, y < 65536) (hlen : ks.length ≤ 65536) (hx : x < 65536)
    (h : RA w p vk vc vw ks cs) :
    Calls Tryz.prog 34 #[.pointer (some ⟨p, 0, none⟩), .int .u16 x] w fun e w' => e = .returned (.int .i64 (bsOf ks x)) ∧ w = w' := by
  have hk := h.k
  rcases Nat.eq_zero_or_pos ks.length with h0 | h0
  · obtain rfl := List.eq_nil_of_length_eq_zero h0
    obtain ⟨rfl, _⟩ | ⟨g, k, r, rfl, _, _, hg⟩ := h.keys.2
    all_goals
      clear h hs hl hlen h0
      go_enter Tryz.func34, Tryz.ntmps34
      go_wp2
      go_ret
      exact ⟨rfl, rfl⟩
  · obtain ⟨g, k, r, rfl, _, _, hg⟩ := h.keys.open h0
    have C := Lib.hid (raSearch_any p g (ks.length + k) _ ks r x w hs hl hlen hx hk hg)
    obtain ⟨y, hy⟩ : ∃ y : Nat, ks[ks.length - 1]? = some y := ⟨ks[ks.length - 1], List.getElem?_eq_getElem _⟩
    have hcell : w.cell? ⟨g, ks.length - 1, none⟩ = some (.int .u16 (y : Int)) := (hg.cell _).trans (u16s_at hy r)
    have hat := fun (e : y = x) => (bsOf_at hs (k := x) (m := ks.length - 1) (by rw [hy, e])).1
    have Hs := Lib.hid hs; clear hs
    have Hl := Lib.hid hl; clear hl
    have H := Lib.hid h; clear h
    have Hg := Lib.hid hg; clear hg
    have Hy := Lib.hid hy; clear hy
    have Hat := Lib.hid hat; clear hat
    generalize ks.length = n at *
    generalize bsOf ks x = R at *
    have h0' : ((n : Int) == 0) = false := by simp; omega
    by_cases hyx : y = x
    · have e1 : ((y : Int) == (x : Int)) = true := by simp [hyx]
      have e2 := Lib.hid (Hat.out hyx)
      clear hyx
      go_enter Tryz.func34, Tryz.ntmps34
      go_wp2
      go_ret
      exact ⟨ret_int (by rw [e2.out]; omega), rfl⟩
    · have e1 : ((y : Int) == (x : Int)) = false := by simp; omega
      clear hyx
      go_enter Tryz.func34, Tryz.ntmps34
      go_wp2_with (go_at_call 47; refine C.out.mono ?_; rintro e w' ⟨rfl, rfl⟩)
      go_ret
      exact ⟨rfl, rfl⟩

theorem replicate_at {n i : Nat} (v : Value) (h : i < n) (r : List Value) : (List.replicate n v ++ r)[i]? = some v := by
  rw [List.getElem?_append_left (by simpa using h)]
  simp [h]

set_option maxHeartbeats 400000 in
theorem getWritable_any (p : Nat) (vk vc vw : Value) (ks : List Nat) (cs : List Value) (i : Nat) (c : Value) (w : World) (hi : i < ks.length) (hc : cs[i]? = some c)
    (h : RA w p vk vc vw ks cs) :
    Calls Tryz.prog 35 #[.pointer (some ⟨p, 0, none⟩), .int .i64 i] w fun e w' => e = .returned c ∧ w = w' := by
  have h1 := h.c
  have h2 := h.w
  obtain ⟨g, k, r, rfl, _, hk, hg⟩ := h.conts.open (by omega)
  obtain ⟨g', k', r', rfl, _, hk', hg'⟩ := h.cows.open (by omega)
  have hl := h.conts.len
  have hb1 : w.cell? ⟨g', i, none⟩ = some (.bool false) := (hg'.cell _).trans (replicate_at _ hi _)
  have hb2 : w.cell? ⟨g, i, none⟩ = some c := (hg.cell _).trans (by rw [List.getElem?_append_left (by omega)]; exact hc)
  unfold maxLen at hk hk'
  clear h hg hg' hc hl
  generalize ks.length = n at *
  go_enter Tryz.func35, Tryz.ntmps35
  go_wp2
  go_ret
  exact ⟨rfl, rfl⟩

set_option maxHeartbeats 400000 in
theorem setContainer_any (p : Nat) (vk vc vw : Value) (ks : List Nat) (cs : List Value) (i : Nat) (ct : TypeId) (cv : Value) (w : World) (hi : i < ks.length)
    (hd : p ∉ blkOf vc ∧ (∀ b ∈ blkOf vk, b ∉ blkOf vc) ∧ (∀ b ∈ blkOf vw, b ∉ blkOf vc))
    (h : RA w p vk vc vw ks cs) :
    Calls Tryz.prog 36 #[.pointer (some ⟨p, 0, none⟩), .int .i64 i, .iface ct cv] w fun e w' => e = .returned (.tuple #[]) ∧ RA w' p vk vc vw ks (cs.set i (.iface ct cv)) ∧ Kept (· ∈ blkOf vc) w w' := by
  have h1 := h.c
  obtain ⟨g, k, r, rfl, hr, hk, hg⟩ := h.conts.open (by omega)
  have hl := h.conts.len
  simp only [blkOf_some, List.mem_singleton] at hd
  have hf : w.frozen? ⟨g, i, none⟩ = false := hg.free _
  obtain ⟨c0, hcell⟩ : ∃ c0, w.cell? ⟨g, i, none⟩ = some c0 := ⟨cs[i]'(by omega), (hg.cell _).trans (by rw [List.getElem?_append_left (by omega)]; exact List.getElem?_eq_getElem _)⟩
  have hk' := hk
  unfold maxLen at hk'
  have H := Lib.hid h
  have Hg := Lib.hid hg
  have Hhl := Lib.hid hl
  have Hd := Lib.hid hd
  clear h hg hl hd
  have Hi := hi
  generalize hn : ks.length = n at *
  have Hn := Lib.hid hn
  clear hn
  go_enter Tryz.func36, Tryz.ntmps36
  go_wp2
  go_end0
  have h := H.out
  have hg := Hg.out
  have hl := Hhl.out
  have hn := Hn.out
  subst hn
  obtain ⟨d1, d2, d3⟩ := Hd.out
  obtain ⟨t, hb⟩ := h.blk
  have K : Kept (· ∈ blkOf (.slice (some ⟨g, 0, none⟩) ks.length (ks.length + k))) w (w.setCell ⟨g, i, none⟩ (.iface ct cv)) := (Kept.refl _ _).setCell (by simp) _
  refine ⟨rfl, ⟨⟨t, hb.set_ne d1 _ _⟩, h.keys.kept K (by simpa using d2), ⟨by simp [hl], .inr ⟨g, k, r, rfl, hr, hk, ?_⟩⟩, h.cows.kept K (by simpa using d3)⟩, K⟩
  have := hg.set i (.iface ct cv)
  rwa [List.set_append_left _ _ (by omega)] at this
end Go.Proofs
