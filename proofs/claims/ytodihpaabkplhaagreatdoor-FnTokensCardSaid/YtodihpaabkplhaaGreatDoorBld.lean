/- strings.Builder: WriteString, WriteRune of an ASCII rune, String (the proofs' lines after the shelf's own). -/
import Derived.Test.YtodihpaabkplhaaGreatDoorApp
import Derived.Laws.Externs
import Derived.KernelRfl
import Derived.StillTailTactics
import Derived.WalkSpells
import Derived.WalkLawsBesides
import Derived.Lib.Hide
import Derived.Deep.QuietTactic
import Derived.Test.YtodihpaabkplhaaGreatDoorShelf
import Derived.Lib.Builder
namespace Go.Proofs.YtodihpaabkplhaaGreatDoor
open Go.RowKit

def Bld (w : World) (B b : Nat) (l : List UInt8) : Prop := Lib.IsBuilder 97 5 B b (Lib.byteCells l) w

/-- Each block of other things than bytes, but b, is as it was. -/
def Kept (b : Nat) (w w' : World) : Prop := ∀ (k : Nat) (cs : Array Value) (T : TypeId) (fr : Nat × Nat), k ≠ b → T ≠ 5 → w.heap[k]? = some (.cells cs T fr) → w'.heap[k]? = some (.cells cs T fr)
theorem Kept.refl (b : Nat) (w : World) : Kept b w w := fun _ _ _ _ _ _ h => h
theorem Kept.trans {b : Nat} {u v w : World} (h : Kept b u v) (k : Kept b v w) : Kept b u w := fun i cs T fr h1 h2 h3 => k i cs T fr h1 h2 (h i cs T fr h1 h2 h3)
theorem Kept.setCell {b : Nat} {u v : World} (h : Kept b u v) (i : Nat) (x : Value) : Kept b u (v.setCell ⟨b, i, none⟩ x) := fun k cs T fr h1 h2 h3 => by
  rw [Below.heap_setCell v ⟨b, i, none⟩ x k h1]
  exact h k cs T fr h1 h2 h3
theorem heap_lt {w : World} {k : Nat} {o : Obj} (h : w.heap[k]? = some o) : k < w.heap.size := by
  rcases Nat.lt_or_ge k w.heap.size with h' | h'
  · exact h'
  · simp [Array.getElem?_eq_none h'] at h
theorem Kept.below {b : Nat} {w w' : World} (h : Below w.heap.size w w') : Kept b w w' := fun k _ _ _ _ _ h3 => (h.block k (heap_lt h3)).trans h3

theorem sizeBuilder : (Tryz.prog.info? 97).map (·.size) = some 2 := by kernel_rfl
theorem liesBuilder : liesAt Tryz.prog Tryz.prog.depth 97 (2 / Tryz.prog.cellsOf 97) 0 97 1 = true := by kernel_rfl

set_option maxHeartbeats 1000000 in
set_option maxRecDepth 100000 in
theorem copyCheck_used (b : Nat) (w : World) (h0 : w.cell? ⟨b, 0, none⟩ = some (.pointer (some ⟨b, 0, none⟩))) :
    Calls Tryz.prog 65 #[.pointer (some ⟨b, 0, none⟩)] w fun e w' => e = .returned (.tuple #[]) ∧ w' = w := by
  obtain ⟨j, hj, _⟩ := Option.map_eq_some_iff.1 sizeBuilder
  go_enter Tryz.func65, Tryz.ntmps65
  go_wp2
  rw [Lib.run_neq_ptr_same w _ Tryz.underlying95 hj]
  go_wp2
  go_end0
  exact ⟨rfl, rfl⟩

set_option maxHeartbeats 1000000 in
set_option maxRecDepth 100000 in
theorem copyCheck_fresh (b : Nat) (w : World) (h0 : w.cell? ⟨b, 0, none⟩ = some (.pointer none)) (hsh : w.shape? b = some (97, 2)) (hfz : w.frozen? ⟨b, 0, none⟩ = false) :
    Calls Tryz.prog 65 #[.pointer (some ⟨b, 0, none⟩)] w fun e w' => e = .returned (.tuple #[]) ∧ w' = w.setCell ⟨b, 0, none⟩ (.pointer (some ⟨b, 0, none⟩)) := by
  obtain ⟨j, hj, hjs⟩ := Option.map_eq_some_iff.1 sizeBuilder
  go_enter Tryz.func65, Tryz.ntmps65
  go_wp2
  rw [Lib.run_to_unsafe w ⟨b, 0, none⟩ Tryz.underlying95 Tryz.underlying156 hj (by rw [hjs]; decide) hsh (Nat.zero_lt_succ 1)]
  simp only [Result.andThen]
  rw [Oper.upon_value]
  go_wp2
  rw [run_callFunc_extern Tryz.func87 (by kernel_rfl) (by kernel_rfl) (by kernel_rfl) (e := Extern.AbiNoEscape.same) (by kernel_rfl)]
  rw [Lib.run_noEscape]
  simp only [Result.andThen]
  rw [Oper.upon_value]
  go_wp2
  rw [Lib.run_from_unsafe w ⟨b, 0, none⟩ Tryz.underlying156 Tryz.underlying95 hj hsh liesBuilder]
  simp only [Result.andThen]
  rw [Oper.upon_value]
  go_wp2
  go_end0
  exact ⟨rfl, rfl⟩

theorem copyCheck_any (B b : Nat) (bs : List Value) (w : World) (h : Lib.IsBuilder 97 5 B b bs w) :
    Calls Tryz.prog 65 #[.pointer (some ⟨b, 0, none⟩)] w fun e w' => e = .returned (.tuple #[]) ∧ (Lib.BuilderAt 97 5 B b (.pointer (some ⟨b, 0, none⟩)) bs w' ∧ Below B w w' ∧ Kept b w w') := by
  rcases h with h | h
  · refine (copyCheck_fresh b w h.cell0 h.shape h.frozen0).mono ?_
    rintro e w' ⟨rfl, rfl⟩
    exact ⟨rfl, h.used _, (Below.refl B w).setCell (p := ⟨b, 0, none⟩) h.1 _, (Kept.refl b w).setCell 0 _⟩
  · refine (copyCheck_used b w h.cell0).mono ?_
    rintro e w' ⟨rfl, rfl⟩
    exact ⟨rfl, h, Below.refl B _, Kept.refl b _⟩

theorem own_slice {w : World} {B n : Nat} {v : Value} {xs : List Value} (h : w.ownsRow B 5 1 v n xs) : ∃ ao cap, v = .slice ao n cap := by
  rcases h.2 with ⟨hv, h0⟩ | ⟨g, cap, cur, hv, _⟩
  · exact ⟨none, 0, by rw [hv, h0]⟩
  · exact ⟨_, _, hv⟩


theorem appendRune_any (B : Nat) (v : Value) (l : List UInt8) (c : Nat) (w : World) (hc : c < 128) (hb : Bytes w B v l) (hl : l.length ≤ 100000000) (hB : B ≤ w.heap.size) :
    Calls Tryz.prog 66 #[v, .int .i32 c] w fun e w' => ∃ v', e = .returned v' ∧ Bytes w' B v' (l ++ [UInt8.ofNat c]) ∧ Grew B w v w' v' := by
  have e8 : (UInt8.ofNat c).toNat = c := by simp; omega
  go_enter Tryz.func66, Tryz.ntmps66
  go_wp2_with (at_builtin; refine wpList_push _ _ rfl rfl B v l (UInt8.ofNat c) _ _ (by rw [e8]) (by rfl) (by rfl) hb (by omega) hB ?_)
  intro v' w' hb' hg' _
  go_wp2
  go_ret
  exact ⟨v', rfl, hb', hg'⟩

set_option maxHeartbeats 2000000 in
set_option maxRecDepth 100000 in
theorem writeRune_any (B b : Nat) (l : List UInt8) (c : Nat) (w : World) (hc : c < 128) (h : Bld w B b l) (hlen : l.length ≤ 100000000) (hBw : B ≤ w.heap.size) :
    Calls Tryz.prog 45 #[.pointer (some ⟨b, 0, none⟩), .int .i32 c] w fun e w' => e = .returned (.tuple #[.int .i64 1, .nilIface]) ∧ Bld w' B b (l ++ [UInt8.ofNat c]) ∧ Below B w w' ∧ Kept b w w' := by
  have hcc := copyCheck_any B b _ w h
  have hbl : (Lib.byteCells l).length = l.length := by simp [Lib.byteCells]
  go_enter Tryz.func45, Tryz.ntmps45
  go_wp2_with fail
  refine hcc.mono ?_
  rintro e w1 ⟨rfl, h1, hb1, hk1⟩
  clear hcc
  obtain ⟨hB, v, hbk, hown, hne⟩ := h1
  rw [hbl] at hown
  obtain ⟨ao, cap, rfl⟩ := own_slice hown
  have c0 : w1.cell? ⟨b, 0, none⟩ = some (.pointer (some ⟨b, 0, none⟩)) := by rw [Lib.cell_of_heap hbk]; rfl
  have c1 : w1.cell? ⟨b, 1, none⟩ = some (.slice ao l.length cap) := by rw [Lib.cell_of_heap hbk]; rfl
  have hlt : b < w1.heap.size := by
    rcases Nat.lt_or_ge b w1.heap.size with h' | h'
    · exact h'
    · simp [Array.getElem?_eq_none h'] at hbk
  have har := appendRune_any B _ l c w1 hc hown (by omega) (by have := hb1.size; omega)
  go_wp2_with fail
  refine har.mono ?_
  rintro e w2 ⟨v', rfl, hown', hgrow⟩
  clear har c0 c1
  obtain ⟨hbe, hne'⟩ := hgrow.block b hlt hne
  have hb2 : w2.heap[b]? = some (.cells #[.pointer (some ⟨b, 0, none⟩), .slice ao l.length cap] 97 (0, 0)) := by
    rw [hbe]
    exact hbk
  have d0 : w2.cell? ⟨b, 0, none⟩ = some (.pointer (some ⟨b, 0, none⟩)) := by rw [Lib.cell_of_heap hb2]; rfl
  have d1 : w2.cell? ⟨b, 1, none⟩ = some (.slice ao l.length cap) := by rw [Lib.cell_of_heap hb2]; rfl
  have f1 : w2.frozen? ⟨b, 1, none⟩ = false := Lib.frozen_of_heap hb2 1
  have hown2 := hown'
  unfold Bytes at hown2
  rw [List.length_append, List.length_singleton] at hown2
  obtain ⟨ao', cap', rfl⟩ := own_slice hown2
  have one : (l.length : Int) + 1 - (l.length : Int) = 1 := by omega
  go_wp2
  go_ret2
  refine ⟨rfl, ?_, (hb1.trans hgrow.below).setCell (p := ⟨b, 1, none⟩) hB _, Kept.setCell (hk1.trans ?_) 1 _⟩
  rotate_left
  · intro k cs T fr h1 h2 h3
    exact (hgrow.block k (heap_lt h3) (Lib.ownBlock_ne hown h3 h2)).1.trans h3
  refine Or.inr (Lib.BuilderAt.put (T := 97) (e := 5) hB hb2 (bs' := Lib.byteCells (l ++ [UInt8.ofNat c])) ?_ (by decide))
  have e : (Lib.byteCells (l ++ [UInt8.ofNat c])).length = l.length + 1 := by simp [Lib.byteCells]
  rw [e]
  exact hown2

theorem string_any (B b : Nat) (l : List UInt8) (w : World) (h : Bld w B b l) (hBw : B ≤ w.heap.size) :
    Calls Tryz.prog 47 #[.pointer (some ⟨b, 0, none⟩)] w fun e w' => e = .returned (.string ⟨l.toArray⟩) ∧ Below B w w' := Builder_String_any B b l w h hBw
end Go.Proofs.YtodihpaabkplhaaGreatDoor
