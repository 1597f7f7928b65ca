/-
  How lists of numbers lie in memory: the cells of a slice of 16-bit numbers.
-/
import Derived.Test.YtbfjpbpohkidoaaGreatDoorQpl
import Derived.Test.YtbfjpbpohkidoaaGreatDoorHeap
namespace Go.Roar
open Go.RowKit

def u16s (l : List Nat) : List Value := l.map fun (n : Nat) => .int .u16 (n : Int)

@[simp] theorem u16s_length (l : List Nat) : (u16s l).length = l.length := by simp [u16s]
theorem u16s_at {l : List Nat} {j x : Nat} (h : l[j]? = some x) (r : List Value) : (u16s l ++ r)[j]? = some (.int .u16 (x : Int)) := by
  have hj : j < l.length := (List.getElem?_eq_some_iff.1 h).1
  rw [List.getElem?_append_left (by simpa using hj)]
  simp [u16s, h]

def u64s (l : List Nat) : List Value := l.map fun (n : Nat) => .int .u64 (n : Int)
def u8s (l : List Nat) : List Value := l.map fun (n : Nat) => .int .u8 (n : Int)
@[simp] theorem u64s_length (l : List Nat) : (u64s l).length = l.length := by simp [u64s]
@[simp] theorem u8s_length (l : List Nat) : (u8s l).length = l.length := by simp [u8s]
theorem u64s_at {l : List Nat} {j x : Nat} (h : l[j]? = some x) : (u64s l)[j]? = some (.int .u64 (x : Int)) := by simp [u64s, h]
theorem u16s_get {l : List Nat} {j x : Nat} (h : l[j]? = some x) : (u16s l)[j]? = some (.int .u16 (x : Int)) := by simp [u16s, h]
theorem u8s_at {l : List Nat} {j x : Nat} (h : l[j]? = some x) : (u8s l)[j]? = some (.int .u8 (x : Int)) := by simp [u8s, h]

theorem ret_int {k : IntKind} {a b : Int} (h : a = b) : Ending.returned (.int k a) = .returned (.int k b) := by rw [h]
theorem int_eq {k : IntKind} {a b : Int} (h : a = b) : Value.int k a = Value.int k b := by rw [h]
theorem some_eq {a b : Value} (h : a = b) : some a = some b := by rw [h]
end Go.Roar
