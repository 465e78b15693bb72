/- spec.Part of a polygon, a multi point or a multi line. -/
import Derived.Test.YtodihpaabkplhaaDoorFlw
import Derived.Test.YtodihpaabkplhaaDoorGeg
import Derived.Deep.RegionHeld3
import Derived.Deep.AppendLies
import Derived.Maps.AppendAt
namespace Go.Proofs.YtodihpaabkplhaaDoor
open Go.RowKit

theorem kidOf_any (k : Int) (w : World) (h4 : 4 ≤ k) (h6 : k ≤ 6) :
    Calls Tryd.prog 57 #[.int .i64 k] w fun e w' => e = .returned (.int .i64 (k - 3)) ∧ w = w' := by
  go_enter Tryd.func57, Tryd.ntmps57
  go_wp2_with fail
  go_ret
  exact ⟨rfl, rfl⟩

theorem info_f64 : (Tryd.prog.info? 24).map (fun i => (i.zero, i.size, i.bytes)) = some (some (.float .f64 0), 1, 8) := by kernel_rfl
/-- The cells of numbers. -/
def fltL (ys : Nat → Nat) (n : Nat) : List Value := (List.range n).map fun j => .float .f64 (ys j)
theorem fltL_length (ys : Nat → Nat) (n : Nat) : (fltL ys n).length = n := by simp [fltL]
theorem fltL_get (ys : Nat → Nat) (n j : Nat) (hj : j < n) : (fltL ys n)[j]? = some (.float .f64 (ys j)) := by simp [fltL, hj]
theorem fltL_one (ys : Nat → Nat) (n : Nat) : ∀ u ∈ fltL ys n, u.oneCell' = true := by
  intro u hu
  obtain ⟨j, _, rfl⟩ := List.mem_map.1 hu
  rfl
theorem grown_block {W2 w1 : World} {o : Obj} {b : Nat} (hb : b < W2.heap.size) (hg : (W2.alloc o).drew.grownBy w1 (some W2.heap.size)) : w1.heap[b]? = W2.heap[b]? := by
  have e : (W2.alloc o).drew.heap[b]? = W2.heap[b]? := Below.heap_alloc W2 o b hb
  have hs : (W2.alloc o).drew.heap.size = W2.heap.size + 1 := by show (W2.heap.push o).size = _; simp
  exact (hg.block b (by omega) (fun e => by have := Option.some.inj e; omega)).trans e
theorem grown_cell {W2 w1 : World} {o : Obj} {p : Addr} {v : Value} (h : W2.cell? p = some v) (hg : (W2.alloc o).drew.grownBy w1 (some W2.heap.size)) : w1.cell? p = some v := by
  rw [World.cell?_of_block (grown_block (World.block_lt_of_cell? W2 p h) hg)]
  exact h
theorem Box.lt {w : World} {b : Nat} {T : TypeId} {cs : Array Value} (h : Box w b T cs) : b < w.heap.size := by
  rcases Nat.lt_or_ge b w.heap.size with h' | h'
  · exact h'
  · unfold Box at h; simp [Array.getElem?_eq_none h'] at h
theorem Box.grownD {W2 w1 : World} {o : Obj} {b : Nat} {T : TypeId} {cs : Array Value} (h : Box W2 b T cs) (hg : (W2.alloc o).drew.grownBy w1 (some W2.heap.size)) : Box w1 b T cs := (grown_block h.lt hg).trans h
/-- Seven stores into another block. -/
theorem far7 {w1 : World} {b c o : Nat} {v : Value} (hne : b ≠ c) (h : w1.cell? ⟨b, o, none⟩ = some v) (a0 a1 a2 a3 a4 a5 a6 : Value) :
    (((((((w1.setCell ⟨c, 0, none⟩ a0).setCell ⟨c, 1, none⟩ a1).setCell ⟨c, 2, none⟩ a2).setCell ⟨c, 3, none⟩ a3).setCell ⟨c, 4, none⟩ a4).setCell ⟨c, 5, none⟩ a5).setCell ⟨c, 6, none⟩ a6).cell? ⟨b, o, none⟩ = some v := by
  have k : ∀ (w : World) (j : Nat) (u : Value), (w.setCell ⟨c, j, none⟩ u).cell? ⟨b, o, none⟩ = w.cell? ⟨b, o, none⟩ := fun w j u => World.cell?_of_block (Below.heap_setCell w ⟨c, j, none⟩ u b hne)
  rw [k, k, k, k, k, k, k]
  exact h
theorem grown_below {W W2 w1 : World} {o : Obj} (h : Below W.heap.size W W2) (hg : (W2.alloc o).drew.grownBy w1 (some W2.heap.size)) : Below W.heap.size W w1 := by
  have hs : (W2.alloc o).drew.heap.size = W2.heap.size + 1 := by show (W2.heap.push o).size = _; simp
  refine ⟨hg.os.trans h.os, hg.tape.trans h.tape, hg.output.trans h.output, Nat.le_trans h.size (by have := hg.size; omega), fun b hb => ?_⟩
  exact (grown_block (Nat.lt_of_lt_of_le hb h.size) hg).trans (h.block b hb)
/-- The source's cells, in the world in which the append is made. -/
theorem src_cells {w W2 : World} {fb fo fn a m : Nat} {xs : Nat → Nat} {o : Obj} (hx : FRow w fb fo fn xs) (hB : Below w.heap.size w W2) (hm : a + m ≤ fn) :
    ∀ j u, (fltL (fun j => xs (a + j)) m)[j]? = some u → (W2.alloc o).drew.cell? ((⟨fb, fo + a, none⟩ : Addr).add j) = some u := by
  intro j u hu
  have hj : j < m := by
    rcases Nat.lt_or_ge j m with h | h
    · exact h
    · rw [List.getElem?_eq_none (by rw [fltL_length]; exact h)] at hu; cases hu
  rw [fltL_get _ _ _ hj] at hu
  cases hu
  have e : ((⟨fb, fo + a, none⟩ : Addr).add j) = ⟨fb, fo + a + j, none⟩ := by
    unfold Addr.add
    split
    · rename_i h; rw [h, Nat.add_zero]
    · rfl
  rw [e, Nat.add_assoc]
  have h1 := cell_kept hB (hx (a + j) (by omega)).1
  exact cell_kept ((Below.refl _ _).alloc (Nat.le_refl _) o) h1
theorem own_cells {w : World} {B m g cap : Nat} {ys : Nat → Nat} (h : w.ownsRow B 24 1 (.slice (some ⟨g, 0, none⟩) (0 + m) cap) (0 + m) ([] ++ fltL ys m)) : Cells w g 24 m (fun j => .float .f64 (ys j)) ∧ (m ≤ cap ∧ cap ≤ maxLen) := by
  rw [Nat.zero_add, List.nil_append] at h
  rcases h.2 with ⟨h0, _⟩ | ⟨g', cap', cur, hv, _, hh, h1, h2, h3, h4⟩
  · cases h0
  · cases hv
    refine ⟨⟨cur, hh, by omega, fun j hj => ?_⟩, h1, h2⟩
    have hg := fltL_get ys m j hj
    rw [← h4, List.getElem?_take, if_pos (by omega), Array.getElem?_toList] at hg
    exact hg

-- PARTS
/-- Numbers in a block of their own. -/
def FRowT (w : World) (fo : Option Addr) (m : Nat) (ys : Nat → Nat) : Prop := (0 < m → ∃ b, fo = some ⟨b, 0, none⟩ ∧ Cells w b 24 m (fun j => .float .f64 (ys j))) ∧ ∀ j, j < m → ys j < 18446744073709551616
theorem FRowT.toO {w : World} {fo : Option Addr} {m : Nat} {ys : Nat → Nat} (h : FRowT w fo m ys) : FRowO w fo m ys := fun hm => by
  obtain ⟨b, he, hc⟩ := h.1 hm
  refine ⟨b, 0, he, fun j hj => ⟨?_, h.2 j hj⟩⟩
  rw [Nat.zero_add]
  exact hc.cell hj
theorem FRowT.mono {w w' : World} {fo : Option Addr} {m : Nat} {ys : Nat → Nat} (h : FRowT w fo m ys) (hk : ∀ (b : Nat) (a : Array Value), w.heap[b]? = some (Obj.cells a 24 (0, 0)) → w'.heap[b]? = w.heap[b]?) : FRowT w' fo m ys := by
  refine ⟨fun hm => ?_, h.2⟩
  obtain ⟨b, he, a, ha, hr⟩ := h.1 hm
  exact ⟨b, he, a, (hk b a ha).trans ha, hr⟩
theorem FRowT.below {w w' : World} {fo : Option Addr} {m : Nat} {ys : Nat → Nat} (h : FRowT w fo m ys) (hb : Below w.heap.size w w') : FRowT w' fo m ys := h.mono fun b _ hb0 => hb.block b (heap_lt hb0)
/-- Whole numbers in a block of their own. -/
def IRowT (w : World) (eo : Option Addr) (m : Nat) (es : Nat → Nat) : Prop := (0 < m → ∃ b, eo = some ⟨b, 0, none⟩ ∧ Cells w b 3 m (fun j => .int .i64 (es j : Int))) ∧ ∀ j, j < m → I64 (es j : Int)
theorem IRowT.toO {w : World} {eo : Option Addr} {m : Nat} {es : Nat → Nat} (h : IRowT w eo m es) : IRow w eo m (fun j => (es j : Int)) := fun hm => by
  obtain ⟨b, he, hc⟩ := h.1 hm
  refine ⟨b, 0, he, fun j hj => ⟨?_, h.2 j hj⟩⟩
  rw [Nat.zero_add]
  exact hc.cell hj
theorem IRowT.mono {w w' : World} {eo : Option Addr} {m : Nat} {es : Nat → Nat} (h : IRowT w eo m es) (hk : ∀ (b : Nat) (a : Array Value), w.heap[b]? = some (Obj.cells a 3 (0, 0)) → w'.heap[b]? = w.heap[b]?) : IRowT w' eo m es := by
  refine ⟨fun hm => ?_, h.2⟩
  obtain ⟨b, he, a, ha, hr⟩ := h.1 hm
  exact ⟨b, he, a, (hk b a ha).trans ha, hr⟩
theorem IRowT.below {w w' : World} {eo : Option Addr} {m : Nat} {es : Nat → Nat} (h : IRowT w eo m es) (hb : Below w.heap.size w w') : IRowT w' eo m es := h.mono fun b _ hb0 => hb.block b (heap_lt hb0)
theorem IRowT.none (w : World) (es : Nat → Nat) : IRowT w none 0 es := ⟨fun h => absurd h (by omega), fun _ h => absurd h (by omega)⟩
/-- A part: its numbers, and its ends, lie anew. -/
def PartV (w : World) (k l : Int) (m : Nat) (ys : Nat → Nat) (en : Nat) (es : Nat → Nat) (cs : Array Value) : Prop :=
  ∃ fo fp eo ep, cs = #[.int .i64 k, .int .i64 l, .int .i64 0, .slice fo m fp, .slice eo en ep, .slice none 0 0, .slice none 0 0] ∧ (m ≤ fp ∧ fp ≤ maxLen) ∧ FRowT w fo m ys ∧ IRowT w eo en es
def PartOut (k l : Int) (ys : Nat → Nat) (m en : Nat) (es : Nat → Nat) (w : World) (e : Ending) (w' : World) : Prop := ∃ cs, e = .returned (.agg cs) ∧ PartV w' k l m ys en es cs ∧ Below w.heap.size w w'
theorem cell_drew (W : World) (p : Addr) : W.drew.cell? p = W.cell? p := rfl
theorem far7d {w1 : World} {b c o : Nat} {v : Value} (hne : b ≠ c) (h : w1.cell? ⟨b, o, none⟩ = some v) (a0 a1 a2 a3 a4 a5 a6 : Value) :
    (((((((w1.setCell ⟨c, 0, none⟩ a0).setCell ⟨c, 1, none⟩ a1).setCell ⟨c, 2, none⟩ a2).setCell ⟨c, 3, none⟩ a3).setCell ⟨c, 4, none⟩ a4).setCell ⟨c, 5, none⟩ a5).setCell ⟨c, 6, none⟩ a6).drew.cell? ⟨b, o, none⟩ = some v := by
  rw [cell_drew]
  exact far7 hne h a0 a1 a2 a3 a4 a5 a6
theorem below7 {w w1 : World} {c : Nat} (h : Below w.heap.size w w1) (hc : w.heap.size ≤ c) (a0 a1 a2 a3 a4 a5 a6 : Value) :
    Below w.heap.size w (((((((w1.setCell ⟨c, 0, none⟩ a0).setCell ⟨c, 1, none⟩ a1).setCell ⟨c, 2, none⟩ a2).setCell ⟨c, 3, none⟩ a3).setCell ⟨c, 4, none⟩ a4).setCell ⟨c, 5, none⟩ a5).setCell ⟨c, 6, none⟩ a6) :=
  ((((((h.setCell (p := ⟨c, 0, none⟩) hc a0).setCell (p := ⟨c, 1, none⟩) hc a1).setCell (p := ⟨c, 2, none⟩) hc a2).setCell (p := ⟨c, 3, none⟩) hc a3).setCell (p := ⟨c, 4, none⟩) hc a4).setCell (p := ⟨c, 5, none⟩) hc a5).setCell (p := ⟨c, 6, none⟩) hc a6
theorem part_nil {k l : Int} {ys : Nat → Nat} {a g : Nat} {w w1 : World} (hb : Below w.heap.size w w1) (a0 a1 a2 a3 a4 a5 a6 : Value) :
    PartOut k l ys (a - a) 0 (fun _ => 0) w (.returned (.agg #[.int .i64 k, .int .i64 l, .int .i64 0, .slice (some ⟨g, 0, none⟩) 0 0, .slice none 0 0, .slice none 0 0, .slice none 0 0]))
      (((((((w1.setCell ⟨w.heap.size + 1, 0, none⟩ a0).setCell ⟨w.heap.size + 1, 1, none⟩ a1).setCell ⟨w.heap.size + 1, 2, none⟩ a2).setCell ⟨w.heap.size + 1, 3, none⟩ a3).setCell ⟨w.heap.size + 1, 4, none⟩ a4).setCell ⟨w.heap.size + 1, 5, none⟩ a5).setCell ⟨w.heap.size + 1, 6, none⟩ a6).drew := by
  rw [Nat.sub_self]
  exact ⟨_, rfl, ⟨_, _, _, _, rfl, ⟨Nat.le_refl _, Nat.zero_le _⟩, ⟨fun h => absurd h (by omega), fun _ h => absurd h (by omega)⟩, IRowT.none _ _⟩, (below7 hb (by omega) _ _ _ _ _ _ _).drew⟩
theorem part_out {k l : Int} {ys : Nat → Nat} {m g cap : Nat} {w w1 : World} {a0 a1 a2 a3 a4 a5 a6 : Value} (h : w1.ownsRow w.heap.size 24 1 (.slice (some ⟨g, 0, none⟩) (0 + m) cap) (0 + m) ([] ++ fltL ys m)) (hy : ∀ j, j < m → ys j < 18446744073709551616) (hb : Below w.heap.size w w1) (hg : w.heap.size + 1 < g) :
    PartOut k l ys m 0 (fun _ => 0) w (.returned (.agg #[.int .i64 k, .int .i64 l, .int .i64 0, .slice (some ⟨g, 0, none⟩) m cap, .slice none 0 0, .slice none 0 0, .slice none 0 0]))
      (((((((w1.setCell ⟨w.heap.size + 1, 0, none⟩ a0).setCell ⟨w.heap.size + 1, 1, none⟩ a1).setCell ⟨w.heap.size + 1, 2, none⟩ a2).setCell ⟨w.heap.size + 1, 3, none⟩ a3).setCell ⟨w.heap.size + 1, 4, none⟩ a4).setCell ⟨w.heap.size + 1, 5, none⟩ a5).setCell ⟨w.heap.size + 1, 6, none⟩ a6) := by
  obtain ⟨hc, hcap⟩ := own_cells h
  refine ⟨_, rfl, ⟨_, _, _, _, rfl, hcap, ⟨fun _ => ⟨g, rfl, ?_⟩, hy⟩, IRowT.none _ _⟩, below7 hb (by omega) _ _ _ _ _ _ _⟩
  have ne : ∀ j, g ≠ (⟨w.heap.size + 1, j, none⟩ : Addr).block := fun j => by show g ≠ w.heap.size + 1; omega
  exact ((((((hc.setOther (ne 0) _).setOther (ne 1) _).setOther (ne 2) _).setOther (ne 3) _).setOther (ne 4) _).setOther (ne 5) _).setOther (ne 6) _

end Go.Proofs.YtodihpaabkplhaaDoor
