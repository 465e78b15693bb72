/- A block of cells, told cell by cell by a function of the index. -/
import Derived.Test.YtodihpaabkplhaaGreatDoorNum
import Derived.Lib.Builder
import Derived.Lib.Hide
import Derived.Sort.Row
import Derived.Deep.Draws
namespace Go.Proofs.YtodihpaabkplhaaGreatDoor
open Go.RowKit

theorem Below.drewN {B : Nat} {a w : World} (h : Below B a w) (n : Nat) : Below B a (w.drewN n) := ⟨h.os, h.tape, h.output, h.size, h.block⟩

/-- Block b begins with n cells of type T, none of them frozen; cell i is c i. -/
def Cells (w : World) (b : Nat) (T : TypeId) (n : Nat) (c : Nat → Value) : Prop :=
  ∃ a : Array Value, w.heap[b]? = some (.cells a T (0, 0)) ∧ n ≤ a.size ∧ ∀ i, i < n → a[i]? = some (c i)

theorem Cells.cell {w : World} {b : Nat} {T : TypeId} {n : Nat} {c : Nat → Value} (h : Cells w b T n c) {i : Nat} (hi : i < n) : w.cell? ⟨b, i, none⟩ = some (c i) := by
  obtain ⟨a, ha, _, hc⟩ := h
  rw [Lib.cell_of_heap ha]
  exact hc i hi
theorem Cells.frozen {w : World} {b : Nat} {T : TypeId} {n : Nat} {c : Nat → Value} (h : Cells w b T n c) (i : Nat) : w.frozen? ⟨b, i, none⟩ = false := by
  obtain ⟨a, ha, _, _⟩ := h
  exact Lib.frozen_of_heap ha i
theorem Cells.lt {w : World} {b : Nat} {T : TypeId} {n : Nat} {c : Nat → Value} (h : Cells w b T n c) : b < w.heap.size := by
  obtain ⟨a, ha, _, _⟩ := h
  rcases Nat.lt_or_ge b w.heap.size with h' | h'
  · exact h'
  · simp [Array.getElem?_eq_none h'] at ha
theorem Cells.set {w : World} {b : Nat} {T : TypeId} {n : Nat} {c : Nat → Value} (h : Cells w b T n c) {i : Nat} (hi : i < n) (v : Value) :
    Cells (w.setCell ⟨b, i, none⟩ v) b T n (fun j => if j = i then v else c j) := by
  obtain ⟨a, ha, hs, hc⟩ := h
  refine ⟨a.setIfInBounds i v, ?_, by simpa using hs, ?_⟩
  · simp [World.setCell, Array.getElem?_modify, ha]
  · intro j hj
    rw [Array.getElem?_setIfInBounds]
    by_cases e : i = j
    · subst e
      rw [if_pos rfl, if_pos (by omega)]
      show some v = some (if i = i then v else c i)
      rw [if_pos rfl]
    · rw [if_neg e]
      show a[j]? = some (if j = i then v else c j)
      rw [if_neg (fun h => e h.symm)]
      exact hc j hj
theorem Cells.heap {w w' : World} {b : Nat} {T : TypeId} {n : Nat} {c : Nat → Value} (h : Cells w b T n c) (e : w'.heap[b]? = w.heap[b]?) : Cells w' b T n c := by
  obtain ⟨a, ha, r⟩ := h
  exact ⟨a, e.trans ha, r⟩
theorem Cells.below {B : Nat} {w w' : World} {b : Nat} {T : TypeId} {n : Nat} {c : Nat → Value} (h : Cells w b T n c) (hb : Below B w w') (hB : b < B) : Cells w' b T n c := h.heap (hb.block b hB)
theorem Cells.drewN {w : World} {b : Nat} {T : TypeId} {n : Nat} {c : Nat → Value} (h : Cells w b T n c) (k : Nat) : Cells (w.drewN k) b T n c := h
theorem Cells.drew {w : World} {b : Nat} {T : TypeId} {n : Nat} {c : Nat → Value} (h : Cells w b T n c) : Cells w.drew b T n c := h
theorem Cells.alloc {w : World} {b : Nat} {T : TypeId} {n : Nat} {c : Nat → Value} (h : Cells w b T n c) (o : Obj) : Cells (w.alloc o) b T n c := h.heap (Below.heap_alloc w o b h.lt)
theorem Cells.setOther {w : World} {b : Nat} {T : TypeId} {n : Nat} {c : Nat → Value} (h : Cells w b T n c) {a : Addr} (ha : b ≠ a.block) (v : Value) : Cells (w.setCell a v) b T n c := h.heap (Below.heap_setCell w a v b ha)
theorem Cells.congr {w : World} {b : Nat} {T : TypeId} {n : Nat} {c d : Nat → Value} (h : Cells w b T n c) (e : ∀ i, i < n → c i = d i) : Cells w b T n d := by
  obtain ⟨a, ha, hs, hc⟩ := h
  exact ⟨a, ha, hs, fun i hi => by rw [← e i hi]; exact hc i hi⟩
theorem Cells.new (w : World) (T : TypeId) (a : Array Value) (c : Nat → Value) (hc : ∀ i, i < a.size → a[i]? = some (c i)) : Cells (w.alloc (.cells a T)) w.heap.size T a.size c :=
  ⟨a, by show (w.heap.push _)[w.heap.size]? = _; simp, Nat.le_refl _, hc⟩
theorem Cells.sub {w : World} {b : Nat} {T : TypeId} {n m : Nat} {c d : Nat → Value} (h : Cells w b T n c) (hm : m ≤ n) (e : ∀ i, i < m → c i = d i) : Cells w b T m d := by
  obtain ⟨a, ha, hs, hc⟩ := h
  exact ⟨a, ha, by omega, fun i hi => by rw [← e i hi]; exact hc i (by omega)⟩

/-- A row of bytes. -/
def byteC (D : Nat → UInt8) (i : Nat) : Value := .int .u8 ((D i).toNat : Int)
theorem byteC_set (D : Nat → UInt8) (i : Nat) (x : UInt8) (v : Value) (hv : v = .int .u8 (x.toNat : Int)) :
    (fun j => if j = i then v else byteC D j) = byteC (fun j => if j = i then x else D j) := by
  funext j
  show (if j = i then v else byteC D j) = .int .u8 ((if j = i then x else D j : UInt8).toNat : Int)
  split
  · exact hv
  · rfl
theorem byte_lt (x : UInt8) : 0 ≤ (x.toNat : Int) ∧ (x.toNat : Int) ≤ 255 := ⟨by omega, by have := x.toNat_lt; omega⟩

/-- The number of digits without the zeros at the end. -/
def trimN (D : Nat → UInt8) : Nat → Nat
  | 0 => 0
  | k + 1 => if D k = 48 then trimN D k else k + 1
theorem trimN_le (D : Nat → UInt8) : ∀ n, trimN D n ≤ n
  | 0 => Nat.le_refl _
  | k + 1 => by
    have := trimN_le D k
    unfold trimN
    split <;> omega
theorem u8_eq_toNat (x : UInt8) (n : Nat) (hn : n < 256) : x = UInt8.ofNat n ↔ (x.toNat : Int) = n := by
  constructor
  · rintro rfl
    simp [Nat.mod_eq_of_lt hn]
  · intro h
    have h' : x.toNat = n := by omega
    rw [← h']
    simp

/-- Of bytes, in the form in which Row's words speak. -/
def encB : UInt8 → Value := fun b => Value.int .u8 (b.toNat : Int)
def arrOf (D : Nat → UInt8) (n : Nat) : Array UInt8 := ((List.range n).map D).toArray
theorem arrOf_size (D : Nat → UInt8) (n : Nat) : (arrOf D n).size = n := by simp [arrOf]
theorem arrOf_at (D : Nat → UInt8) (n i : Nat) (hi : i < n) : (arrOf D n)[i]! = D i := by
  rw [getElem!_pos _ i (by rw [arrOf_size]; exact hi)]
  simp [arrOf]
theorem Cells.holds {w : World} {b : Nat} {T : TypeId} {n : Nat} {D : Nat → UInt8} (h : Cells w b T n (byteC D)) {k : Nat} (hk : k ≤ n) : Sort.Holds (fun (x : UInt8) => Value.int .u8 (x.toNat : Int)) w b 0 (arrOf D k) := by
  intro j hj
  rw [arrOf_size] at hj
  rw [Nat.zero_add]
  refine ⟨?_, h.frozen j⟩
  rw [h.cell (by omega), arrOf_at D k j hj]
  rfl
theorem Cells.putRow {w : World} {b : Nat} {T : TypeId} {n : Nat} {D : Nat → UInt8} (h : Cells w b T n (byteC D)) (d : Array UInt8) :
    Cells (Sort.putRow (fun (x : UInt8) => Value.int .u8 (x.toNat : Int)) w b 0 d) b T n (byteC fun i => if i < d.size then d[i]! else D i) := by
  obtain ⟨a, ha, hs, hc⟩ := h
  refine ⟨Sort.putCells (fun (x : UInt8) => Value.int .u8 (x.toNat : Int)) 0 d a, ?_, by simpa [Sort.putCells] using hs, ?_⟩
  · simp [Sort.putRow, Sort.mapBlock, Array.getElem?_modify, ha, Sort.onCells]
  · intro i hi
    simp only [Sort.putCells, Array.getElem?_mapIdx, hc i hi, Option.map_some, byteC]
    by_cases hd : i < d.size
    · rw [if_pos ⟨by omega, by omega⟩, if_pos hd, Nat.sub_zero]
    · rw [if_neg (by omega), if_neg hd]
theorem Below.putRow (w : World) (b : Nat) (d : Array UInt8) : Below b w (Sort.putRow (fun (x : UInt8) => Value.int .u8 (x.toNat : Int)) w b 0 d) := by
  refine ⟨rfl, rfl, rfl, by simp [Sort.putRow, Sort.mapBlock], fun k hk => ?_⟩
  simp only [Sort.putRow, Sort.mapBlock, Array.getElem?_modify]
  rw [if_neg (by omega)]

end Go.Proofs.YtodihpaabkplhaaGreatDoor
