/-
  What readFrom reads: a container of each kind as its bytes tell it; the items of the format.
-/
import Derived.Test.YtanmgknadeoffaaGreatDoorJHeap
import Derived.Test.YtanmgknadeoffaaGreatDoorJLe
import Derived.Laws.BitsAllLaws
namespace Go.Roar
open Go.RowKit

/-- The container c, of kind k, with the body bs, in blocks from H on. -/
def CRep (w : World) (H : Nat) (c : Value) (k card : Nat) (bs : List Nat) : Prop :=
  ∃ q g m, H ≤ q ∧ H ≤ g ∧
    ((k = 0 ∧ c = .iface 84 (.pointer (some ⟨q, 0, none⟩)) ∧ Blk w q 147 [.slice (some ⟨g, 0, none⟩) m m] ∧ bs.length = 2 * m ∧ Blk w g 44 (u16s (decK 2 bs))) ∨
     (k = 1 ∧ c = .iface 85 (.pointer (some ⟨q, 0, none⟩)) ∧ Blk w q 145 [.int .i64 (card : Int), .slice (some ⟨g, 0, none⟩) m m] ∧ bs.length = 8 * m ∧ Blk w g 28 (u64s (decK 8 bs))) ∨
     (k = 2 ∧ c = .iface 141 (.pointer (some ⟨q, 0, none⟩)) ∧ Blk w q 140 [.slice (some ⟨g, 0, none⟩) m m] ∧ bs.length = 2 + 4 * m ∧ Blk w g 178 (u16s (decK 2 (bs.drop 2)))))

theorem CRep.kept {T : Nat → Prop} {w w' : World} {H : Nat} {c : Value} {k card : Nat} {bs : List Nat} (h : CRep w H c k card bs) (hk : Kept T w w') (hT : ∀ b, H ≤ b → ¬ T b) : CRep w' H c k card bs := by
  obtain ⟨q, g, m, hq, hg, h⟩ := h
  refine ⟨q, g, m, hq, hg, ?_⟩
  rcases h with ⟨a, b, c, d, e⟩ | ⟨a, b, c, d, e⟩ | ⟨a, b, c, d, e⟩
  · exact .inl ⟨a, b, c.kept hk (hT q hq), d, e.kept hk (hT g hg)⟩
  · exact .inr (.inl ⟨a, b, c.kept hk (hT q hq), d, e.kept hk (hT g hg)⟩)
  · exact .inr (.inr ⟨a, b, c.kept hk (hT q hq), d, e.kept hk (hT g hg)⟩)

theorem CRep.mono {w : World} {H H' : Nat} {c : Value} {k card : Nat} {bs : List Nat} (h : CRep w H c k card bs) (hH : H' ≤ H) : CRep w H' c k card bs := by
  obtain ⟨q, g, m, hq, hg, h⟩ := h
  exact ⟨q, g, m, by omega, by omega, h⟩

/-- Whether part i is told by runs. -/
def flagAt (fl : Option (List Nat)) (i : Nat) : Bool := match fl with | none => false | some f => (f.getD (i / 8) 0).testBit (i % 8)

/-- The bytes that tell which parts are told by runs, if there are any: they lie below block H, clear of T. -/
def FRel (w : World) (T : Nat → Prop) (H : Nat) (v : Value) (m : Nat) (fl : Option (List Nat)) : Prop :=
  (fl = none ∧ v = .slice none 0 0) ∨ ∃ f a c, fl = some f ∧ v = .slice (some a) m c ∧ RB w (some a) m c f ∧ ¬ T a.block ∧ a.block < H
theorem FRel.kept {T T' : Nat → Prop} {w w' : World} {H : Nat} {v : Value} {m : Nat} {fl : Option (List Nat)} (h : FRel w T H v m fl) (hk : Kept T' w w') (hT : ∀ b, b < H → T' b → T b) : FRel w' T H v m fl := by
  rcases h with h | ⟨f, a, c, h1, h2, h3, h4, h5⟩
  · exact .inl h
  · exact .inr ⟨f, a, c, h1, h2, h3.kept hk (fun x hx => by cases hx; exact fun h => h4 (hT _ h5 h)), h4, h5⟩
theorem RB.lt {w : World} {a : Addr} {n c : Nat} {bs : List Nat} (h : RB w (some a) n c bs) (hn : 0 < n) : a.block < w.heap.size := by
  obtain ⟨g, o, e, hc⟩ := h.2.2.2 hn
  cases e
  obtain ⟨x, hx⟩ : ∃ x, bs[0]? = some x := ⟨_, List.getElem?_eq_getElem (by have := h.1; omega)⟩
  exact World.block_lt_of_cell? w ⟨g, o + 0, none⟩ (hc 0 x hx)

theorem pow_8 : ∀ k, k < 8 → (2 : Int) ^ k % 256 = ((2 ^ k : Nat) : Int) ∧ 2 ^ k < 256 := by decide
theorem bit_8 : ∀ k, k < 8 → ∀ fb, fb < 256 → ((fb &&& 2 ^ k) != 0) = fb.testBit k := by decide +kernel
theorem flag_test (fb i : Nat) (h : fb < 256) : (bits BinOp.and IntKind.u8 (fb : Int) (2 ^ (i % 8) % 256) != 0) = fb.testBit (i % 8) := by
  obtain ⟨e, h1⟩ := pow_8 (i % 8) (by omega)
  rw [e, u8_and_nat fb _ h h1, ← bit_8 (i % 8) (by omega) fb h]
  rw [Bool.eq_iff_iff]
  simp only [bne_iff_ne, ne_eq]
  omega
/-- Part i of the format. -/
structure RItem (bs hdr : List Nat) (fl : Option (List Nat)) (pos : Nat → Nat) (i key card1 kind : Nat) (body : List Nat) : Prop where
  key : (decK 2 hdr)[2 * i]? = some key
  card : (decK 2 hdr)[2 * i + 1]? = some card1
  bodyEq : (bs.drop (pos i)).take body.length = body
  bound : card1 < 65536
  next : pos (i + 1) = pos i + body.length
  fits : pos i + body.length ≤ bs.length
  flag : flagAt fl i = decide (kind = 2)
  kinds : (kind = 2 ∧ ∃ m b0 b1, m < 65536 ∧ body.length = 2 + 4 * m ∧ body[0]? = some b0 ∧ body[1]? = some b1 ∧ leN [b0, b1] = m) ∨ (kind = 1 ∧ 4096 < card1 + 1 ∧ body.length = 8192) ∨ (kind = 0 ∧ card1 + 1 ≤ 4096 ∧ body.length = 2 * (card1 + 1))
theorem RItem.at {bs hdr : List Nat} {fl : Option (List Nat)} {pos : Nat → Nat} {i key card1 kind : Nat} {body : List Nat} (h : RItem bs hdr fl pos i key card1 kind body) {j x : Nat} (hx : body[j]? = some x) : bs[pos i + j]? = some x := by
  have hj : j < body.length := (List.getElem?_eq_some_iff.1 hx).1
  rw [← h.bodyEq, List.getElem?_take_of_lt hj, List.getElem?_drop] at hx
  exact hx
theorem RItem.rest {bs hdr : List Nat} {fl : Option (List Nat)} {pos : Nat → Nat} {i key card1 kind : Nat} {body : List Nat} (h : RItem bs hdr fl pos i key card1 kind body) (a n : Nat) (hn : a + n = body.length) : (bs.drop (pos i + a)).take n = body.drop a := by
  have e := congrArg (List.drop a) h.bodyEq
  rw [List.drop_take, List.drop_drop, show body.length - a = n by omega] at e
  exact e
end Go.Roar
