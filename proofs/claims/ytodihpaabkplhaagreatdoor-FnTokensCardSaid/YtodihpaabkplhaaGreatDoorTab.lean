/- What the listed package-level variables hold, said of cells; that a call which only makes new memory leaves it so. -/
import Derived.Test.YtodihpaabkplhaaGreatDoorUni
import Derived.Test.YtodihpaabkplhaaGreatDoorCel
import GoSem.PinnedTables
import Derived.Lib.ItoaNum
namespace Go.Proofs.YtodihpaabkplhaaGreatDoor
open Go.RowKit

def pmHi (i : Nat) : Int := ((Pinned.pow10Rows.getD i (0, 0)).1 : Int)
def pmLo (i : Nat) : Int := ((Pinned.pow10Rows.getD i (0, 0)).2 : Int)
def cheatD (i : Nat) : Int := ((Pinned.cheatRows.getD i (0, [])).1 : Int)
def cheatC (i : Nat) : List UInt8 := (Pinned.cheatRows.getD i (0, [])).2

set_option maxRecDepth 100000 in
theorem pow10Rows_ok : (Pinned.pow10Rows.length == 696 && Pinned.pow10Rows.all fun x => decide (x.1 < 18446744073709551616) && decide (x.2 < 18446744073709551616)) = true := by decide +kernel
theorem pow10Rows_length : Pinned.pow10Rows.length = 696 := by
  have := pow10Rows_ok
  rw [Bool.and_eq_true, beq_iff_eq] at this
  exact this.1
theorem pow10Rows_at (i : Nat) (hi : i < 696) : (Pinned.pow10Rows.getD i (0, 0)).1 < 18446744073709551616 ∧ (Pinned.pow10Rows.getD i (0, 0)).2 < 18446744073709551616 := by
  have := pow10Rows_ok
  rw [Bool.and_eq_true, List.all_eq_true] at this
  have hl : i < Pinned.pow10Rows.length := by rw [pow10Rows_length]; exact hi
  have h := this.2 (Pinned.pow10Rows.getD i (0, 0)) (by rw [List.getD, List.getElem?_eq_getElem hl]; simp)
  simpa using h
theorem u64_pmHi (i : Nat) (hi : i < 696) : U64 (pmHi i) := ⟨by unfold pmHi; omega, by unfold pmHi; have := (pow10Rows_at i hi).1; omega⟩
theorem u64_pmLo (i : Nat) (hi : i < 696) : U64 (pmLo i) := ⟨by unfold pmLo; omega, by unfold pmLo; have := (pow10Rows_at i hi).2; omega⟩

/-- The listed variables, as cells. cb, co: where the rows of leftcheats lie. -/
structure Tabs (cb co : Nat) (w : World) : Prop where
  opt : w.cell? ⟨4, 0, none⟩ = some (.bool true)
  p10 : ∀ i, i < 20 → w.cell? ⟨11, i, none⟩ = some (.int .u64 ((10 ^ i : Nat) : Int))
  hi : ∀ i, i < 696 → w.cell? ⟨9, i * 2, none⟩ = some (.int .u64 (pmHi i))
  lo : ∀ i, i < 696 → w.cell? ⟨9, i * 2 + 1, none⟩ = some (.int .u64 (pmLo i))
  ch : w.cell? ⟨10, 0, none⟩ = some (.slice (some ⟨cb, co, none⟩) 61 61)
  delta : ∀ i, i < 61 → w.cell? ⟨cb, co + i * 2, none⟩ = some (.int .i64 (cheatD i))
  cut : ∀ i, i < 61 → w.cell? ⟨cb, co + i * 2 + 1, none⟩ = some (.string ⟨(cheatC i).toArray⟩)

theorem cell_kept {W w : World} (hb : Below W.heap.size W w) {a : Addr} {v : Value} (h : W.cell? a = some v) : w.cell? a = some v := by
  have hlt : a.block < W.heap.size := by
    rcases Nat.lt_or_ge a.block W.heap.size with h' | h'
    · exact h'
    · simp [World.cell?, Array.getElem?_eq_none h'] at h
  exact (hb.cell hlt).trans h

theorem Tabs.below {cb co : Nat} {W w : World} (h : Tabs cb co W) (hb : Below W.heap.size W w) : Tabs cb co w where
  opt := cell_kept hb h.opt
  p10 := fun i hi => cell_kept hb (h.p10 i hi)
  hi := fun i hi => cell_kept hb (h.hi i hi)
  lo := fun i hi => cell_kept hb (h.lo i hi)
  ch := cell_kept hb h.ch
  delta := fun i hi => cell_kept hb (h.delta i hi)
  cut := fun i hi => cell_kept hb (h.cut i hi)


end Go.Proofs.YtodihpaabkplhaaGreatDoor
