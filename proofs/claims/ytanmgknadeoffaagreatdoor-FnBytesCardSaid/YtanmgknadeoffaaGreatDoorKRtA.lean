/-
  roaringArray.readFrom over a stream (A): from the making of the array on.
-/
import Derived.Test.YtanmgknadeoffaaGreatDoorJRd
import Derived.Test.YtanmgknadeoffaaGreatDoorKCr
import Derived.Test.YtanmgknadeoffaaGreatDoorJLe
import Derived.WalkSpells
import Derived.Lib.SliceRun
import Derived.Lib.EndianBits
import Derived.Laws.BitsAllLaws
import Derived.Deep.DeepCutAuto
namespace Go.Roar
/-- The number of the first region. -/
def firstRegA : Code → Option Nat
  | .region k _ _ => some k
  | .seq a _ => firstRegA a
  | .block _ c => firstRegA c
  | _ => none
/-- The code from region n on. -/
def codeFromA (n : Nat) : Code → Option Code
  | .seq a r => if firstRegA a = some n then some (.seq a r) else codeFromA n r
  | .scope c => codeFromA n c
  | _ => none
end Go.Roar
namespace Go.Proofs
open Go.RowKit Go.Roar
noncomputable def rfTailA : Code := (Tryz.f39.body.bind (codeFromA 34)).getD .skip

theorem aheadA1 (a : Addr) (w : World) : (nilAhead 368 121 (.pointer (some a)) "ReadUInt32").run Tryz.prog w = .ok (some false) w := by kernel_rfl
theorem aheadA2 (a : Addr) (w : World) : (nilAhead 368 121 (.pointer (some a)) "Next").run Tryz.prog w = .ok (some false) w := by kernel_rfl
theorem aheadA3 (a : Addr) (w : World) : (nilAhead 368 121 (.pointer (some a)) "SkipBytes").run Tryz.prog w = .ok (some false) w := by kernel_rfl
theorem aheadA4 (a : Addr) (w : World) : (nilAhead 368 121 (.pointer (some a)) "ReadUInt16").run Tryz.prog w = .ok (some false) w := by kernel_rfl
theorem aheadA5 (a : Addr) (w : World) : (nilAhead 368 121 (.pointer (some a)) "GetReadBytes").run Tryz.prog w = .ok (some false) w := by kernel_rfl
theorem aheadA6 (a : Addr) (w : World) : (nilAhead 368 121 (.pointer (some a)) "NextReturnsSafeSlice").run Tryz.prog w = .ok (some false) w := by kernel_rfl
theorem methA1 (a : Addr) (w : World) : (method 368 121 (.pointer (some a)) "ReadUInt32").run Tryz.prog w = .ok (275, .pointer (some a)) w := by kernel_rfl
theorem methA2 (a : Addr) (w : World) : (method 368 121 (.pointer (some a)) "Next").run Tryz.prog w = .ok (271, .pointer (some a)) w := by kernel_rfl
theorem methA3 (a : Addr) (w : World) : (method 368 121 (.pointer (some a)) "SkipBytes").run Tryz.prog w = .ok (276, .pointer (some a)) w := by kernel_rfl
theorem methA4 (a : Addr) (w : World) : (method 368 121 (.pointer (some a)) "ReadUInt16").run Tryz.prog w = .ok (274, .pointer (some a)) w := by kernel_rfl
theorem methA5 (a : Addr) (w : World) : (method 368 121 (.pointer (some a)) "GetReadBytes").run Tryz.prog w = .ok (270, .pointer (some a)) w := by kernel_rfl
theorem methA6 (a : Addr) (w : World) : (method 368 121 (.pointer (some a)) "NextReturnsSafeSlice").run Tryz.prog w = .ok (272, .pointer (some a)) w := by kernel_rfl

theorem infoU16c : (Tryz.prog.info? 44).map (fun i => (i.zero, i.size, i.bytes)) = some (some (.int .u16 0), 1, 2) := by kernel_rfl
theorem infoCont : (Tryz.prog.info? 83).map (fun i => (i.zero, i.size, i.bytes)) = some (some .nilIface, 1, 16) := by kernel_rfl
theorem infoBool : (Tryz.prog.info? 4).map (fun i => (i.zero, i.size, i.bytes)) = some (some (.bool false), 1, 1) := by kernel_rfl
theorem undConts : Tryz.prog.underlying 76 = some (.slice 83) := by kernel_rfl
theorem undBools : Tryz.prog.underlying 77 = some (.slice 4) := by kernel_rfl

/-- How the loop stands at its round i. -/
structure RInvA (w wr : World) (S R D C : Nat) (bs : List Nat) (p kb : Nat) (tp : TypeId) (n : Nat) (fl : Option (List Nat)) (hdr ks cs kd : List Nat) (bodies : List (List Nat)) (pos : Nat → Nat) (v12 : Value) (Hf gc gk gw H1 : Nat) (i : Nat) : Prop where
  pb : Blk wr p tp [.slice (some ⟨gk, 0, none⟩) n n, .slice (some ⟨gc, 0, none⟩) n n, .slice (some ⟨gw, 0, none⟩) n n, .bool false]
  kbb : Blk wr kb 44 (u16s (decK 2 hdr))
  keys : ∃ zs, zs.length = n ∧ Blk wr gk 44 (mix (u16s ks) zs i)
  conts : ∃ cvs, cvs.length = i ∧ Blk wr gc 83 (cvs ++ List.replicate (n - i) .nilIface) ∧ ∀ (j card1 kind : Nat) (c : Value) (body : List Nat), cvs[j]? = some c → cs[j]? = some card1 → kd[j]? = some kind → bodies[j]? = some body → CRep wr H1 c kind (card1 + 1) body
  marks : ∃ ms, ms.length = n ∧ Blk wr gw 4 ms
  str : StrA wr S R D C bs (pos i)
  flg : FRel wr (fun k => k = p ∨ k = R ∨ k = S) Hf v12 ((n + 7) / 8) fl
  kept : Kept (fun k => k = p ∨ k = R ∨ k = S) w wr
  sz : H1 ≤ wr.heap.size

theorem RInvA.step {w V U : World} {S R D C : Nat} {bs : List Nat} {p kb : Nat} {tp : TypeId} {n : Nat} {fl : Option (List Nat)} {hdr ks cs kd : List Nat} {bodies : List (List Nat)} {pos : Nat → Nat} {v12 : Value} {Hf gc gk gw H1 i : Nat} {cvs zs ms : List Value} {card1 kind : Nat} {body : List Nat}
    (HP : Blk V p tp [.slice (some ⟨gk, 0, none⟩) n n, .slice (some ⟨gc, 0, none⟩) n n, .slice (some ⟨gw, 0, none⟩) n n, .bool false]) (HKB : Blk V kb 44 (u16s (decK 2 hdr)))
    (HGC : Blk V gc 83 (cvs ++ List.replicate (n - i) .nilIface)) (hcl : cvs.length = i) (HKK : Blk V gk 44 (mix (u16s ks) zs (i + 1))) (hzl : zs.length = n) (HMM : Blk V gw 4 ms) (hml : ms.length = n)
    (HFL : FRel V (fun k => k = p ∨ k = R ∨ k = S) Hf v12 ((n + 7) / 8) fl) (HKP : Kept (fun k => k = p ∨ k = R ∨ k = S) w V)
    (HCR : ∀ (j card1 kind : Nat) (c : Value) (body : List Nat), cvs[j]? = some c → cs[j]? = some card1 → kd[j]? = some kind → bodies[j]? = some body → CRep V H1 c kind (card1 + 1) body) (HSZ : H1 ≤ V.heap.size)
    (lp : p < w.heap.size) (lS : S < w.heap.size) (lD : D < w.heap.size) (hpS : p ≠ S) (hpD : p ≠ D)
    (hpR : p ≠ R) (lR : R < w.heap.size)
    (o0 : w.heap.size ≤ kb) (o1 : w.heap.size ≤ gc) (o2 : kb < gc) (o3 : gc < gk) (o4 : gk < gw) (o5 : gw < H1) (o6 : Hf ≤ gc) (hlt : i < n)
    (kU : Kept (fun k => k = R ∨ k = S) V U) (sU : StrA U S R D C bs (pos (i + 1))) (o : Obj) (cv : Value) (ec : cs[i]? = some card1) (ed : kd[i]? = some kind) (eb : bodies[i]? = some body) (hc : CRep (U.alloc o) H1 cv kind (card1 + 1) body) :
    RInvA w ((U.alloc o).setCell ⟨gc, i, none⟩ cv) S R D C bs p kb tp n fl hdr ks cs kd bodies pos v12 Hf gc gk gw H1 (i + 1) := by
  have kA : Kept (fun k => k = R ∨ k = S) V (U.alloc o) := kU.alloc o
  have kZ : Kept (fun k => k = gc) (U.alloc o) ((U.alloc o).setCell ⟨gc, i, none⟩ cv) := Kept.one _ _ _ _
  have kVZ : Kept (fun k => k = gc ∨ k = R ∨ k = S) V ((U.alloc o).setCell ⟨gc, i, none⟩ cv) := (kA.mono (fun _ _ h => .inr h)).trans (kZ.mono (fun _ _ h => .inl h))
  refine ⟨HP.kept kVZ (by omega), HKB.kept kVZ (by omega), ⟨zs, hzl, HKK.kept kVZ (by omega)⟩, ⟨cvs ++ [cv], by simp [hcl], ?_, ?_⟩, ⟨ms, hml, HMM.kept kVZ (by omega)⟩, ?_, HFL.kept kVZ (fun b hb hb' => ?_), HKP.then kVZ (fun k hk hk' => ?_), ?_⟩
  · have h1 := (HGC.kept kA (by omega)).set i cv
    rw [List.set_append_right _ _ (by omega), hcl, Nat.sub_self, show n - i = (n - (i + 1)) + 1 by omega, List.replicate_succ, List.set_cons_zero] at h1
    simpa using h1
  · intro j a b c d e1 e2 e3 e4
    rcases Nat.lt_trichotomy j i with hj | hj | hj
    · rw [List.getElem?_append_left (by omega)] at e1
      exact (HCR j a b c d e1 e2 e3 e4).kept kVZ (fun b hb hb' => by omega)
    · subst hj
      rw [List.getElem?_append_right (by omega), hcl, Nat.sub_self] at e1
      rw [ec] at e2; rw [ed] at e3; rw [eb] at e4
      cases e1; cases e2; cases e3; cases e4
      exact hc.kept kZ (fun b hb hb' => by omega)
    · rw [List.getElem?_append_right (by omega), List.getElem?_eq_none (by simp; omega)] at e1
      cases e1
  · have l1 := HKP.size
    have l2 := kU.size
    exact (sU.kept (T := fun k => k = gc) ((Kept.alloc (S := fun k => k = gc) (Kept.refl _ _) o).trans kZ) (by omega) (by omega) (by omega))
  · rcases hb' with h | h
    · omega
    · exact .inr h
  · rcases hk' with h | h
    · omega
    · exact .inr h
  · have l2 := kU.size
    simp; omega

set_option maxRecDepth 100000 in
set_option maxHeartbeats 8000000 in
theorem rtA_any (S R D C : Nat) (bs : List Nat) (p kb : Nat) (tp : TypeId) (n : Nat) (fl : Option (List Nat)) (hdr ks cs kd : List Nat) (bodies : List (List Nat)) (pos : Nat → Nat) (w w0 : World) (v12 : Value) (Hf : Nat)
    (hs : StrA w0 S R D C bs (pos 0)) (hp : Blk w0 p tp [.slice none 0 0, .slice none 0 0, .slice none 0 0, .bool false]) (hkb : Blk w0 kb 44 (u16s (decK 2 hdr))) (hkw : Kept (fun k => k = p ∨ k = R ∨ k = S) w w0)
    (lp : p < w.heap.size) (lS : S < w.heap.size) (lD : D < w.heap.size) (lk : w.heap.size ≤ kb) (hb : bs.length ≤ 1000000000) (hby : ∀ b ∈ bs, b < 256) (hSR : S ≠ R) (hSD : S ≠ D) (hRD : R ≠ D) (hpS : p ≠ S) (hpD : p ≠ D)
    (hpR : p ≠ R) (lR : R < w.heap.size)
    (hn : 0 < n) (hn2 : n ≤ 65536) (hF : FRel w0 (fun k => k = p ∨ k = R ∨ k = S) Hf v12 ((n + 7) / 8) fl) (hHf : Hf ≤ w0.heap.size)
    (hlk : ks.length = n) (hlc : cs.length = n) (hld : kd.length = n) (hlb : bodies.length = n) (hlh : (decK 2 hdr).length = 2 * n)
    (hit : ∀ (i key card1 kind : Nat) (body : List Nat), ks[i]? = some key → cs[i]? = some card1 → kd[i]? = some kind → bodies[i]? = some body → RItem bs hdr fl pos i key card1 kind body)
    (x2 x3 x4 x5 x6 x7 x8 x9 x13 x14 x16 x17 x18 x19 x20 x21 x22 x23 x24 x25 x26 x27 x28 x29 x30 x31 x32 x33 x34 x35 x36 x37 x38 x39 x40 x41 x42 x43 x44 x45 x46 x47 x48 x49 x50 x51 x52 x53 x54 x55 x56 x57 x58 x59 x60 x61 x62 x63 x64 x65 x66 x67 x68 x69 x70 x71 x72 x73 x74 x75 x76 x77 x78 x79 x80 x81 x82 x83 x84 x85 x86 x87 x88 x89 x90 x91 x92 x93 x94 x95 x96 x97 x98 x99 x100 x101 x102 x103 x104 x105 x106 x107 x108 x109 x110 x111 x112 x113 x114 x115 x116 x117 x118 x119 x120 x121 x122 x123 x124 x125 x126 x127 x128 x129 x130 x131 x132 x133 x134 x135 x136 x137 x138 x139 x140 x141 x142 x143 x144 x145 x146 x147 x148 x149 x150 x151 x152 x153 x154 x155 x156 x157 x158 x159 x160 x161 x162 x163 x164 x165 x166 x167 x168 x169 x170 x171 x172 x173 x174 x175 x176 x177 x178 x179 x180 x181 x182 x183 x184 x185 x186 x187 x188 x189 x190 x191 x192 x193 x194 x195 x196 x197 x198 x199 x200 x201 x202 x203 x204 x205 x206 x207 x208 x209 x210 x211 x212 x213 x214 x215 x216 x217 x218 x219 x220 x221 x222 x223 x224 x225 x226 x227 x228 x229 x230 x231 x232 x233 x234 x235 x236 x237 x238 x239 x240 x241 x242 x243 x244 x245 x246 x247 x248 x249 x250 x251 x252 x253 x254 x255 x256 x257 x258 x259 x260 x261 x262 x263 x264 x265 x266 x267 x268 x269 x270 x271 x272 x273 x274 x275 x276 x277 x278 x279 x280 x281 x282 x283 x284 x285 x286 x287 x288 x289 x290 x291 x292 x293 x294 x295 x296 x297 x298 x299 x300 x301 x302 x303 x304 x305 x306 x307 x308 x309 x310 x311 x312 x313 x314 x315 x316 x317 x318 x319 x320 x321 : Value) :
    Code.wp Tryz.prog rfTailA (bodyPost Tryz.prog Tryz.f39 fun e w' => e = .returned (.tuple #[.int .i64 (pos n : Nat), .nilIface]) ∧
      ∃ gk gc gw cvs, Blk w' p tp [.slice (some ⟨gk, 0, none⟩) n n, .slice (some ⟨gc, 0, none⟩) n n, .slice (some ⟨gw, 0, none⟩) n n, .bool false] ∧ Blk w' gk 44 (u16s ks) ∧ Blk w' gc 83 cvs ∧ cvs.length = n ∧
        (∀ (i card1 kind : Nat) (c : Value) (body : List Nat), cvs[i]? = some c → cs[i]? = some card1 → kd[i]? = some kind → bodies[i]? = some body → CRep w' w.heap.size c kind (card1 + 1) body) ∧
        Kept (fun k => k = p ∨ k = R ∨ k = S) w w')
      ⟨#[.pointer (some ⟨p, 0, none⟩), .iface 121 (.pointer (some ⟨S, 0, none⟩)), x2, x3, x4, x5, x6, x7, x8, x9, .bool false, .int .u32 (n : Int), v12, x13, x14, .slice (some ⟨kb, 0, none⟩) (2 * n) (2 * n), x16, x17, x18, x19, x20, x21, x22, x23, x24, x25, x26, x27, x28, x29, x30, x31, x32, x33, x34, x35, x36, x37, x38, x39, x40, x41, x42, x43, x44, x45, x46, x47, x48, x49, x50, x51, x52, x53, x54, x55, x56, x57, x58, x59, x60, x61, x62, x63, x64, x65, x66, x67, x68, x69, x70, x71, x72, x73, x74, x75, x76, x77, x78, x79, x80, x81, x82, x83, x84, x85, x86, x87, x88, x89, x90, x91, x92, x93, x94, x95, x96, x97, x98, x99, x100, x101, x102, x103, x104, x105, x106, x107, x108, x109, x110, x111, x112, x113, x114, x115, x116, x117, x118, x119, x120, x121, x122, x123, x124, x125, x126, x127, x128, x129, x130, x131, x132, x133, x134, x135, x136, x137, x138, x139, x140, x141, x142, x143, x144, x145, x146, x147, x148, x149, x150, x151, x152, x153, x154, x155, x156, x157, x158, x159, x160, x161, x162, x163, x164, x165, x166, x167, x168, x169, x170, x171, x172, x173, x174, x175, x176, x177, x178, x179, x180, x181, x182, x183, x184, x185, x186, x187, x188, x189, x190, x191, x192, x193, x194, x195, x196, x197, x198, x199, x200, x201, x202, x203, x204, x205, x206, x207, x208, x209, x210, x211, x212, x213, x214, x215, x216, x217, x218, x219, x220, x221, x222, x223, x224, x225, x226, x227, x228, x229, x230, x231, x232, x233, x234, x235, x236, x237, x238, x239, x240, x241, x242, x243, x244, x245, x246, x247, x248, x249, x250, x251, x252, x253, x254, x255, x256, x257, x258, x259, x260, x261, x262, x263, x264, x265, x266, x267, x268, x269, x270, x271, x272, x273, x274, x275, x276, x277, x278, x279, x280, x281, x282, x283, x284, x285, x286, x287, x288, x289, x290, x291, x292, x293, x294, x295, x296, x297, x298, x299, x300, x301, x302, x303, x304, x305, x306, x307, x308, x309, x310, x311, x312, x313, x314, x315, x316, x317, x318, x319, x320, x321], []⟩ w0 := by
  obtain ⟨iU, u1, u2, u3, u4⟩ := info_parts infoU16c
  obtain ⟨iC, c1, c2, c3, c4⟩ := info_parts infoCont
  obtain ⟨iB, y1, y2, y3, y4⟩ := info_parts infoBool
  have f0 := hp.cell 0
  have f1 := hp.cell 1
  have f2 := hp.cell 2
  have ff := fun o => hp.free o
  have i1 : (n : Int) ≤ 65536 := by omega
  conv => arg 2; whnf
  go_wp2_with (first
    | (at_make; refine wpList_make_blk rfl (.tmp 150) (.tmp 150) 76 rfl 83 iC .nilIface 1 undConts c1 c2 c3 .u32 .u32 _ _ n rfl rfl (by omega) (by omega) (by rw [c4]; omega) (by unfold maxLen; omega) ?_; intro w1 hb1 hk1 hz1; have hp1 := hp.kept hk1 id; have g0 := hp1.cell 0; have g1 := hp1.cell 1; have g2 := hp1.cell 2; have gf := fun o => hp1.free o; have hpa := hp1.set 1 (.slice (some ⟨w0.heap.size, 0, none⟩) n n); clear f0 f1 f2 ff)
    | (at_make; refine wpList_make_blk rfl (.tmp 172) (.tmp 172) 75 rfl 44 iU (.int .u16 0) 1 undU16s u1 u2 u3 .u32 .u32 _ _ n rfl rfl (by omega) (by omega) (by rw [u4]; omega) (by unfold maxLen; omega) ?_; intro w2 hb2 hk2 hz2; simp only [World.size_setCell] at hb2 hz2; have hp2 := hpa.kept hk2 id; have l0 := hp2.cell 0; have l1 := hp2.cell 1; have l2 := hp2.cell 2; have lf := fun o => hp2.free o; have hpb := hp2.set 0 (.slice (some ⟨w1.heap.size, 0, none⟩) n n); clear g0 g1 g2 gf)
    | (at_make; refine wpList_make_blk rfl (.tmp 194) (.tmp 194) 77 rfl 4 iB (.bool false) 1 undBools y1 y2 y3 .u32 .u32 _ _ n rfl rfl (by omega) (by omega) (by rw [y4]; omega) (by unfold maxLen; omega) ?_; intro w3 hb3 hk3 hz3; simp only [World.size_setCell] at hb3 hz3; have hp3 := hpb.kept hk3 id; have r2 := hp3.cell 2; have rf := fun o => hp3.free o; have hpc := hp3.set 2 (.slice (some ⟨w2.heap.size, 0, none⟩) n n); clear l0 l1 l2 lf))
  have hc0 : (madeCells Value.nilIface.cells (n * 1)).toList = List.replicate n .nilIface := by
    rw [Nat.mul_one]; exact List.eq_replicate_iff.2 ⟨by simp [size_madeCells], fun b hb => made_all _ _ rfl b hb⟩
  rw [hc0] at hb1
  have zl2 := made_length (Value.int IntKind.u16 0) (n * 1)
  have zl3 := made_length (Value.bool false) (n * 1)
  generalize (madeCells (Value.int IntKind.u16 0).cells (n * 1)).toList = z2 at *
  generalize (madeCells (Value.bool false).cells (n * 1)).toList = z3 at *
  rw [Nat.mul_one] at zl2 zl3
  have hw0 := hkw.size
  obtain ⟨gc, hgc⟩ : ∃ gc, gc = w0.heap.size := ⟨_, rfl⟩
  obtain ⟨gk, hgk⟩ : ∃ gk, gk = w1.heap.size := ⟨_, rfl⟩
  obtain ⟨gw, hgw⟩ : ∃ gw, gw = w2.heap.size := ⟨_, rfl⟩
  have lk2 := hkb.lt
  have o1 : w.heap.size ≤ gc := by omega
  have o2 : kb < gc := by omega
  have o3 : gc < gk := by omega
  have o4 : gk < gw := by omega
  have o5 : gw < w3.heap.size := by omega
  have o6 : Hf ≤ gc := by omega
  rw [← hgc, ← hgk, ← hgw] at hpc
  rw [← hgc] at hb1
  rw [← hgk] at hb2
  rw [← hgw] at hb3
  rw [← hgc, ← hgk, ← hgw]
  have I0 : RInvA w (w3.setCell ⟨p, 2, none⟩ (.slice (some ⟨gw, 0, none⟩) n n)) S R D C bs p kb tp n fl hdr ks cs kd bodies pos v12 Hf gc gk gw w3.heap.size 0 := by
    have k1 : Kept (fun k => k = p) w0 w1 := hk1.mono (fun _ _ => False.elim)
    have k2 : Kept (fun k => k = p) w0 w2 := (k1.trans (Kept.one w1 p 1 _)).trans (hk2.mono (fun _ _ => False.elim))
    have k3 : Kept (fun k => k = p) w0 (w3.setCell ⟨p, 2, none⟩ (.slice (some ⟨gw, 0, none⟩) n n)) := ((k2.trans (Kept.one w2 p 0 _)).trans (hk3.mono (fun _ _ => False.elim))).trans (Kept.one w3 p 2 _)
    refine ⟨hpc, hkb.kept k3 (by omega), ⟨z2, zl2, ?_⟩, ⟨[], rfl, ?_, ?_⟩, ⟨z3, zl3, ?_⟩, ?_, hF.kept k3 (fun b _ hb => .inl hb), hkw.trans (k3.mono (fun _ _ h => .inl h)), ?_⟩
    · rw [mix_zero]; exact (((hb2.set_ne (by omega) _ _).kept hk3 id)).set_ne (by omega) _ _
    · exact ((((hb1.set_ne (by omega) _ _).kept hk2 id).set_ne (by omega) _ _).kept hk3 id).set_ne (by omega) _ _
    · intro j card1 kind c body h; simp at h
    · exact hb3.set_ne (by omega) _ _
    · exact hs.kept k3 (Ne.symm hpS) (Ne.symm hpR) (Ne.symm hpD)
    · simp
  generalize w3.setCell ⟨p, 2, none⟩ (.slice (some ⟨gw, 0, none⟩) n n) = W3 at *
  generalize w3.heap.size = H1 at *
  clear hpc hpb hpa hp3 hp2 hp1 hb1 hb2 hb3 hk1 hk2 hk3 hgc hgk hgw hz1 hz2 hz3 hc0 r2 rf hs hp hkb hkw hF u1 u2 u3 u4 c1 c2 c3 c4 y1 y2 y3 y4 zl2 zl3 lk2 hw0
  have HI0 := Lib.hid I0
  have Hit := Lib.hid hit
  have Hby := Lib.hid hby
  have Hlk := Lib.hid hlk
  have Hlc := Lib.hid hlc
  have Hld := Lib.hid hld
  have Hlb := Lib.hid hlb
  have Hlh := Lib.hid hlh
  clear I0 hit hby hlk hlc hld hlb hlh
  go_loopw [17] (fun s wr => ∃ i : Nat, s = .int .u32 i ∧ i ≤ n ∧ Hid (RInvA w wr S R D C bs p kb tp n fl hdr ks cs kd bodies pos v12 Hf gc gk gw H1 i)) (fun s _ => n - (intOf s).toNat)
  case atStart => exact ⟨0, rfl, Nat.zero_le _, HI0⟩
  case round =>
    obtain ⟨i, rfl, hi, HI⟩ := hrel
    clear HI0
    by_cases hlt : i < n
    · obtain ⟨key, ek⟩ : ∃ x, ks[i]? = some x := ⟨_, List.getElem?_eq_getElem (by rw [Hlk.out]; exact hlt)⟩
      obtain ⟨card1, ec⟩ : ∃ x, cs[i]? = some x := ⟨_, List.getElem?_eq_getElem (by rw [Hlc.out]; exact hlt)⟩
      obtain ⟨kind, ed⟩ : ∃ x, kd[i]? = some x := ⟨_, List.getElem?_eq_getElem (by rw [Hld.out]; exact hlt)⟩
      obtain ⟨body, eb⟩ : ∃ x, bodies[i]? = some x := ⟨_, List.getElem?_eq_getElem (by rw [Hlb.out]; exact hlt)⟩
      have it := Hit.out i key card1 kind body ek ec ed eb
      have hI := HI.out
      have ckb0 : wr.cell? ⟨kb, 2 * i, none⟩ = some (.int .u16 (key : Int)) := (hI.kbb.cell _).trans (u16s_get it.key)
      have ckb1 : wr.cell? ⟨kb, 2 * i + 1, none⟩ = some (.int .u16 (card1 : Int)) := (hI.kbb.cell _).trans (u16s_get it.card)
      have pc0 := hI.pb.cell 0
      have pc1 := hI.pb.cell 1
      have pc2 := hI.pb.cell 2
      obtain ⟨zs, hzl, hkk⟩ := hI.keys
      obtain ⟨ms, hml, hmm⟩ := hI.marks
      obtain ⟨cvs, hcl, hcc, hcr⟩ := hI.conts
      have hll : (u16s ks).length = zs.length := by rw [u16s_length, Hlk.out, hzl]
      obtain ⟨x, hx⟩ : ∃ x, (mix (u16s ks) zs i)[i]? = some x := ⟨_, List.getElem?_eq_getElem (by rw [mix_length _ _ _ hll, hzl]; exact hlt)⟩
      obtain ⟨y, hy⟩ : ∃ y, ms[i]? = some y := ⟨_, List.getElem?_eq_getElem (by rw [hml]; exact hlt)⟩
      have ck : wr.cell? ⟨gk, i, none⟩ = some x := (hkk.cell _).trans hx
      have cw : wr.cell? ⟨gw, i, none⟩ = some y := (hmm.cell _).trans hy
      have fk := hkk.free i
      have fw := hmm.free i
      have n1 : gk ≠ p := by omega
      have n1' : p ≠ gk := by omega
      have n2 : gk ≠ kb := by omega
      have n2' : kb ≠ gk := by omega
      have n3 : gk ≠ gw := by omega
      have n3' : gw ≠ gk := by omega
      have n4 : gw ≠ p := by omega
      have n4' : p ≠ gw := by omega
      have hkk1 := (hkk.set i (.int .u16 (key : Int))).set_ne n3 i (.bool false)
      rw [mix_set _ _ hll (u16s_get ek)] at hkk1
      have K1 : Kept (fun k => k = gk ∨ k = gw) wr ((wr.setCell ⟨gk, i, none⟩ (.int .u16 (key : Int))).setCell ⟨gw, i, none⟩ (.bool false)) := ((Kept.one wr gk i _).mono (fun _ _ h => .inl h)).trans ((Kept.one _ gw i _).mono (fun _ _ h => .inr h))
      have hmm1 : Blk ((wr.setCell ⟨gk, i, none⟩ (.int .u16 (key : Int))).setCell ⟨gw, i, none⟩ (.bool false)) gw 4 (ms.set i (.bool false)) := (hmm.set_ne n3' _ _).set i _
      have pb1 := hI.pb.kept K1 (by omega)
      have kb1 := hI.kbb.kept K1 (by omega)
      have gc1 := hcc.kept K1 (by omega)
      have sa := hI.str.kept K1 (by omega) (by omega) (by omega)
      have fl1 := hI.flg.kept K1 (fun b hb hb' => by omega)
      have kp1 : Kept (fun k => k = p ∨ k = R ∨ k = S) w ((wr.setCell ⟨gk, i, none⟩ (.int .u16 (key : Int))).setCell ⟨gw, i, none⟩ (.bool false)) := hI.kept.then K1 (fun k hk hk' => by omega)
      have cr1 : ∀ (j card1 kind : Nat) (c : Value) (body : List Nat), cvs[j]? = some c → cs[j]? = some card1 → kd[j]? = some kind → bodies[j]? = some body → CRep ((wr.setCell ⟨gk, i, none⟩ (.int .u16 (key : Int))).setCell ⟨gw, i, none⟩ (.bool false)) H1 c kind (card1 + 1) body := fun j a b c d e1 e2 e3 e4 => (hcr j a b c d e1 e2 e3 e4).kept K1 (fun b hb hb' => by omega)
      have sz1 : H1 ≤ ((wr.setCell ⟨gk, i, none⟩ (.int .u16 (key : Int))).setCell ⟨gw, i, none⟩ (.bool false)).heap.size := by simpa using hI.sz
      have HP := Lib.hid pb1
      have HKB := Lib.hid kb1
      have HGC := Lib.hid gc1
      have HKK := Lib.hid hkk1
      have HMM := Lib.hid hmm1
      have HS := Lib.hid sa
      have HFL := Lib.hid fl1
      have HKP := Lib.hid kp1
      have HCR := Lib.hid cr1
      have HSZ := Lib.hid sz1
      have enil : (cvs ++ List.replicate (n - i) Value.nilIface)[i]? = some .nilIface := by rw [List.getElem?_append_right (by omega), List.getElem?_replicate, if_pos (by omega)]
      have ENil := Lib.hid enil
      have IT := Lib.hid it
      have Hcl := Lib.hid hcl
      have Hml := Lib.hid hml
      have EK := Lib.hid ek
      have EC := Lib.hid ec
      have ED := Lib.hid ed
      have EB := Lib.hid eb
      have Hzl := Lib.hid hzl
      have bd := it.bound
      obtain ⟨bb, hbb⟩ : ∃ bb : Bool, bb = decide (kind = 2) := ⟨_, rfl⟩
      have Hbb := Lib.hid hbb
      clear enil pb1 kb1 gc1 hkk1 hmm1 sa fl1 kp1 cr1 sz1 it hI hkk hmm hcc hcr hll hx hy K1 hzl hml hcl ek ec ed eb hbb
      go_upto_region 50 with (fail)
      go_cut [243] (fun s wx => s = .bool bb ∧ (wr.setCell ⟨gk, i, none⟩ (.int .u16 (key : Int))).setCell ⟨gw, i, none⟩ (.bool false) = wx)
      case first =>
        have E := run_neq_slice_nil_any (P := Tryz.prog)
        have hfl := IT.out.flag
        rcases HFL.out with ⟨rfl, rfl⟩ | ⟨f, a, c', rfl, rfl, r5, r6, r7⟩
        · have E1 := fun (W : World) => E W 27 5 none 0 0 0 0 undU8s
          obtain rfl : bb = false := by rw [Hbb.out, ← hfl]; rfl
          clear E hfl
          go_wp2
          go_meet
          case rel => exact ⟨rfl, rfl⟩
        · have E1 := fun (W : World) => E W 27 5 (some a) ((n + 7) / 8) c' 0 0 undU8s
          obtain ⟨g, o, ea, hcell⟩ := r5.2.2.2 (by omega)
          cases ea
          obtain ⟨fb, efb⟩ : ∃ fb, f[i / 8]? = some fb := ⟨_, List.getElem?_eq_getElem (by rw [r5.1]; omega)⟩
          have cfb := hcell _ _ efb
          have Efb := Lib.hid efb
          have dfb := r5.2.2.1 fb (List.mem_of_getElem? efb)
          have i8 : i / 8 < (n + 7) / 8 := by omega
          have i8' : ((i : Int) / 8) < (((n + 7) / 8 : Nat) : Int) := by omega
          clear E hfl hcell efb r5 r6
          go_wp2
          go_meet
          case rel =>
            refine ⟨?_, rfl⟩
            rw [flag_test fb i dfb, Hbb.out, ← IT.out.flag]
            unfold flagAt
            simp only [List.getD_eq_getElem?_getD, Efb.out, Option.getD_some]
      case rest =>
        obtain ⟨rfl, rfl⟩ := hcut
        clear pc0 pc1 pc2 ckb0 ckb1 ck cw fk fw HI
        generalize (wr.setCell ⟨gk, i, none⟩ (.int .u16 (key : Int))).setCell ⟨gw, i, none⟩ (.bool false) = V at *
        have o7 : H1 ≤ V.heap.size := HSZ.out
        have nx := IT.out.next
        have ft := IT.out.fits
        have m1' : gc ≠ p := by omega
        have m1'' : p ≠ gc := by omega
        rcases IT.out.kinds with ⟨hk, m, l0, l1, hm, hbl, x0, x1, hle⟩ | ⟨hk, hcd, hbl⟩ | ⟨hk, hcd, hbl⟩
        ·
          as_aux_lemma =>
            have hbb : bb = true := by rw [Hbb.out, hk]; rfl
            subst hbb
            have z0 := IT.out.at x0
            have z1 := IT.out.at x1
            rw [Nat.add_zero] at z0
            have C5 := baU16_any S R D C bs (pos i) l0 l1 V HS.out (by omega) hb z0 z1 (Hby.out _ (List.mem_of_getElem? z0)) (Hby.out _ (List.mem_of_getElem? z1)) hSR hSD hRD
            rw [hle] at C5
            have C5 := Lib.hid C5
            have rst := IT.out.rest 2 (4 * m) (by omega)
            have Hrst := Lib.hid rst
            have Hk := Lib.hid hk
            have Hbl := Lib.hid hbl
            have Nx := Lib.hid nx
            have lt5 : pos i + 2 + 4 * m ≤ bs.length := by omega
            have lt6 : m ≤ 1000000 := by omega
            have eX : (m : Int) * 4 = ((4 * m : Nat) : Int) := by omega
            have EX := Lib.hid eX
            clear hk hbl nx z0 z1 x0 x1 hle rst eX
            have a4 := aheadA4 ⟨S, 0, none⟩
            have m4 := methA4 ⟨S, 0, none⟩
            have a2 := aheadA2 ⟨S, 0, none⟩
            have m2 := methA2 ⟨S, 0, none⟩
            go_wp2_with (first
              | (go_at_call 274; refine C5.out.mono ?_; rintro ed w5 ⟨rfl, s5, k5⟩)
              | (go_at_call 271; refine (baNext_int S R D C bs (pos i + 2) (4 * m) _ w5 EX.out s5 lt5 hb Hby.out hSR hSD hRD).mono ?_; rintro ed w6 ⟨A, c, rfl, r6, s6, k6, _, _⟩)
              | (go_at_call 62; refine (bsIv_any A c m _ w6 lt6 r6).mono ?_; rintro ed w7 ⟨g, rfl, hg7, k7, ge7⟩; have kU := (k5.trans k6).trans (k7.mono (fun _ _ => False.elim)); have hp7 := (HP.out.kept kU (by omega)).alloc (.cells #[.slice (some ⟨g, 0, none⟩) m m] 140); have hc7 := (HGC.out.kept kU (by omega)).alloc (.cells #[.slice (some ⟨g, 0, none⟩) m m] 140); have v0 := hp7.cell 0; have v1 := hp7.cell 1; have v2 := (hc7.cell i).trans ENil.out; have v3 := hc7.free i))
            go_roundw
            case rel =>
              have hcl := Hcl.out
              have hml := Hml.out
              have hzl := Hzl.out
              refine ⟨i + 1, by go_num, by omega, Lib.hid (RInvA.step HP.out HKB.out HGC.out hcl HKK.out hzl HMM.out (by simpa using hml) HFL.out HKP.out HCR.out HSZ.out lp lS lD hpS hpD hpR lR lk o1 o2 o3 o4 o5 o6 hlt kU ?_ _ _ EC.out ED.out EB.out ?_)⟩
              · rw [Nx.out, Hbl.out, show pos i + (2 + 4 * m) = pos i + 2 + 4 * m by omega]; exact s6.mild k7
              · have lU := kU.size
                refine ⟨w7.heap.size, g, m, by omega, by have := k5.size; have := k6.size; omega, .inr (.inr ⟨Hk.out, rfl, Blk.new _ _ _, Hbl.out, ?_⟩)⟩
                rw [← Hrst.out]
                exact hg7.alloc _
            case measure => simp only [intOf]; omega
        · have hbb : bb = false := by rw [Hbb.out, hk]; rfl
          subst hbb
          have rst := IT.out.rest 0 8192 (by omega)
          rw [Nat.add_zero, List.drop_zero] at rst
          have Hrst := Lib.hid rst
          have Hk := Lib.hid hk
          have Hbl := Lib.hid hbl
          have Nx := Lib.hid nx
          have lt5 : pos i + 8192 ≤ bs.length := by omega
          have B64 := fun A c bs w h => bs64_any A c 1024 bs w (by omega) h
          rw [show 8 * 1024 = 8192 from rfl] at B64
          have HB64 := Lib.hid B64
          have cd1 : (4096 : Int) < (card1 : Int) + 1 := by omega
          have HS' := HS.out
          clear hk hbl nx rst B64
          have a2 := aheadA2 ⟨S, 0, none⟩
          have m2 := methA2 ⟨S, 0, none⟩
          go_wp2_with (first
            | (go_at_call 271; refine (baNext_int S R D C bs (pos i) 8192 _ V rfl HS' lt5 hb Hby.out hSR hSD hRD).mono ?_; rintro ed w6 ⟨A, c, rfl, r6, s6, k6, _, _⟩)
            | (go_at_call 63; refine (HB64.out A c _ w6 r6).mono ?_; rintro ed w7 ⟨g, rfl, hg7, k7, ge7⟩; have kU := k6.trans (k7.mono (fun _ _ => False.elim)); have hp7 := (HP.out.kept kU (by omega)).alloc (.cells #[.int .i64 ((card1 : Int) + 1), .slice (some ⟨g, 0, none⟩) 1024 1024] 145); have hc7 := (HGC.out.kept kU (by omega)).alloc (.cells #[.int .i64 ((card1 : Int) + 1), .slice (some ⟨g, 0, none⟩) 1024 1024] 145); have v0 := hp7.cell 0; have v1 := hp7.cell 1; have v2 := (hc7.cell i).trans ENil.out; have v3 := hc7.free i))
          go_roundw
          case rel =>
            have hcl := Hcl.out
            have hml := Hml.out
            have hzl := Hzl.out
            refine ⟨i + 1, by go_num, by omega, Lib.hid (RInvA.step HP.out HKB.out HGC.out hcl HKK.out hzl HMM.out (by simpa using hml) HFL.out HKP.out HCR.out HSZ.out lp lS lD hpS hpD hpR lR lk o1 o2 o3 o4 o5 o6 hlt kU ?_ _ _ EC.out ED.out EB.out ?_)⟩
            · rw [Nx.out, Hbl.out]; exact s6.mild k7
            · have lU := kU.size
              refine ⟨w7.heap.size, g, 1024, by omega, by have := k6.size; omega, .inr (.inl ⟨Hk.out, rfl, ?_, Hbl.out, ?_⟩)⟩
              · have := Blk.new w7 145 [.int .i64 ((card1 : Int) + 1), .slice (some ⟨g, 0, none⟩) 1024 1024]
                simpa using this
              · rw [← Hrst.out]
                exact hg7.alloc _
          case measure => simp only [intOf]; omega
        · have hbb : bb = false := by rw [Hbb.out, hk]; rfl
          subst hbb
          have rst := IT.out.rest 0 (2 * (card1 + 1)) (by omega)
          rw [Nat.add_zero, List.drop_zero] at rst
          have Hrst := Lib.hid rst
          have Hk := Lib.hid hk
          have Hbl := Lib.hid hbl
          have Nx := Lib.hid nx
          have lt5 : pos i + 2 * (card1 + 1) ≤ bs.length := by omega
          have eX : ((card1 : Int) + 1) * 2 = ((2 * (card1 + 1) : Nat) : Int) := by omega
          have EX := Lib.hid eX
          have lt6 : card1 + 1 ≤ 1000000 := by omega
          have cd1 : (card1 : Int) + 1 ≤ 4096 := by omega
          have HS' := HS.out
          clear hk hbl nx rst eX
          have a2 := aheadA2 ⟨S, 0, none⟩
          have m2 := methA2 ⟨S, 0, none⟩
          go_wp2_with (first
            | (go_at_call 271; refine (baNext_int S R D C bs (pos i) (2 * (card1 + 1)) _ V EX.out HS' lt5 hb Hby.out hSR hSD hRD).mono ?_; rintro ed w6 ⟨A, c, rfl, r6, s6, k6, _, _⟩)
            | (go_at_call 61; refine (bs16_any A c (card1 + 1) _ w6 lt6 r6).mono ?_; rintro ed w7 ⟨g, rfl, hg7, k7, ge7⟩; have kU := k6.trans (k7.mono (fun _ _ => False.elim)); have hp7 := (HP.out.kept kU (by omega)).alloc (.cells #[.slice (some ⟨g, 0, none⟩) (card1 + 1) (card1 + 1)] 147); have hc7 := (HGC.out.kept kU (by omega)).alloc (.cells #[.slice (some ⟨g, 0, none⟩) (card1 + 1) (card1 + 1)] 147); have v0 := hp7.cell 0; have v1 := hp7.cell 1; have v2 := (hc7.cell i).trans ENil.out; have v3 := hc7.free i))
          go_roundw
          case rel =>
            have hcl := Hcl.out
            have hml := Hml.out
            have hzl := Hzl.out
            refine ⟨i + 1, by go_num, by omega, Lib.hid (RInvA.step HP.out HKB.out HGC.out hcl HKK.out hzl HMM.out (by simpa using hml) HFL.out HKP.out HCR.out HSZ.out lp lS lD hpS hpD hpR lR lk o1 o2 o3 o4 o5 o6 hlt kU ?_ _ _ EC.out ED.out EB.out ?_)⟩
            · rw [Nx.out, Hbl.out]; exact s6.mild k7
            · have lU := kU.size
              refine ⟨w7.heap.size, g, card1 + 1, by omega, by have := k6.size; omega, .inl ⟨Hk.out, rfl, Blk.new _ _ _, Hbl.out, ?_⟩⟩
              rw [← Hrst.out]
              exact hg7.alloc _
          case measure => simp only [intOf]; omega
    · obtain rfl : i = n := by omega
      have hI := HI.out
      have C9 := Lib.hid (baCount_any S R D C bs (pos i) wr hI.str)
      have HI' := Lib.hid hI
      clear hI
      have a5 := aheadA5 ⟨S, 0, none⟩
      have m5 := methA5 ⟨S, 0, none⟩
      go_wp2_with (go_at_call 270; refine C9.out.mono ?_; rintro ed w9 ⟨rfl, rfl⟩)
      go_ret2
      have hI := HI'.out
      obtain ⟨zs, hzl, hk⟩ := hI.keys
      obtain ⟨cvs, hcl, hcc, hcr⟩ := hI.conts
      rw [mix_all _ _ (by rw [u16s_length, Hlk.out]) hzl] at hk
      rw [Nat.sub_self, List.replicate_zero, List.append_nil] at hcc
      exact ⟨rfl, gk, gc, gw, cvs, hI.pb, hk, hcc, hcl, fun j a b c d e1 e2 e3 e4 => (hcr j a b c d e1 e2 e3 e4).mono (by omega), hI.kept⟩
end Go.Proofs
