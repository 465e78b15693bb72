/- DoorCoord, impl.PlaceText. -/
import Derived.Test.YtodihpaabkplhaaDoorWco
import Derived.Tactics
import Derived.Tactics2
import Derived.Defers
import Derived.Recover
import Derived.Laws.Pointers
namespace Go.Proofs.YtodihpaabkplhaaDoor
open Go.RowKit

/-- A fresh builder and an encoder behind it. -/
theorem fresh_pair (w : World) (digits : Int) : ∃ W1, ((w.alloc (.cells #[.pointer none, .slice none 0 0] 72)).alloc (.cells #[.int .i64 digits] 75)) = W1 ∧ Bld W1 w.heap.size w.heap.size [] ∧ EncAt W1 (w.heap.size + 1) digits ∧ Below w.heap.size w W1 ∧ (w.alloc (.cells #[.pointer none, .slice none 0 0] 72)).heap.size = w.heap.size + 1 := by
  refine ⟨_, rfl, ?_, ?_, ?_, ?_⟩
  · have h := Lib.fresh_isBuilder 72 5 w
    have hb : Below (w.alloc (.cells #[.pointer none, .slice none 0 0] 72)).heap.size (w.alloc (.cells #[.pointer none, .slice none 0 0] 72)) ((w.alloc (.cells #[.pointer none, .slice none 0 0] 72)).alloc (.cells #[.int .i64 digits] 75)) := (Below.refl _ _).alloc (Nat.le_refl _) _
    rcases h with h | h
    · exact Or.inl (bldAt_below h hb)
    · exact Or.inr (bldAt_below h hb)
  · unfold EncAt
    have h := heap_new (w.alloc (.cells #[.pointer none, .slice none 0 0] 72)) (.cells #[.int .i64 digits] 75)
    have e : (w.alloc (.cells #[.pointer none, .slice none 0 0] 72)).heap.size = w.heap.size + 1 := by show (w.heap.push _).size = _; simp
    rw [e] at h
    exact h
  · exact ((Below.refl _ _).alloc (Nat.le_refl _) _).alloc (by show w.heap.size ≤ (w.heap.push _).size; simp) _
  · show (w.heap.push _).size = _
    simp

set_option maxRecDepth 100000 in
set_option maxHeartbeats 800000 in
theorem doorCoord_any (cb co blk off n cap : Nat) (xs : Nat → Nat) (digits : Int) (w : World) (T : Tabs cb co w) (hr : FRow w blk off n xs) (p0 : -1 ≤ digits) (p1 : digits ≤ 20) (hlen : n * 20004 ≤ 100000000) :
    Calls Tryd.prog 28 #[.slice (some ⟨blk, off, none⟩) n cap, .int .i64 digits] w fun e w' => e = .returned (.tuple #[.string (str (coordB xs digits n)), .nilIface]) ∧ Below w.heap.size w w' := by
  obtain ⟨W1, hW1, hb, he, hB, hsz⟩ := fresh_pair w digits
  have hwc := writeCoord_any cb co w.heap.size (w.heap.size + 1) blk off n cap [] xs digits w W1 T hB hb he (by omega) hr p0 p1 (by simpa using hlen)
  rw [List.nil_append] at hwc
  obtain ⟨g, hg⟩ : ∃ g, w.heap.size = g := ⟨_, rfl⟩
  rw [hg] at hwc hB hsz ⊢
  obtain ⟨L, hL⟩ : ∃ L, coordB xs digits n = L := ⟨_, rfl⟩
  rw [hL] at hwc ⊢
  clear hlen T hr hb he hL
  go_enter Tryd.func28, Tryd.ntmps28
  go_wp2_with fail
  refine hwc.mono ?_
  rintro en w2 ⟨rfl, hb2, hB2, _⟩
  clear hwc
  have hst := string_any g g L w2 hb2 (by have := hB.size; have := hB2.size; omega)
  go_wp2_with fail
  refine hst.mono ?_
  rintro en w3 ⟨rfl, hB3⟩
  clear hst
  go_wp2
  go_ret2
  exact ⟨rfl, (hB.trans hB2).trans hB3⟩

theorem FRow.below {W w : World} {blk off n : Nat} {xs : Nat → Nat} (h : FRow W blk off n xs) (hb : Below W.heap.size W w) : FRow w blk off n xs := fun i hi => ⟨cell_kept hb (h i hi).1, (h i hi).2⟩

/-- The deferred closure, where nothing has panicked. -/
theorem placeText_idle (p q : Addr) (w : World) :
    CallsD Tryd.prog 27 #[.pointer (some p), .pointer (some q)] .returning w fun e u' w' => e = .returned (.tuple #[]) ∧ u' = .returning ∧ w' = w := by
  refine callsD_of_wpS Tryd.func27 rfl fun c₀ cs hu => ?_
  apply wpS_seq
  apply wpS_region
  simp [wpOpsS, go_sem, recoverD, hu, Tryd.ntmps27, Exit.thenS]
  refine wpS_cond (t := false) (by simp [Act.eval, Array.replicate]) ?_
  simp only [Bool.false_eq_true, if_false]
  refine wpS_of_wp (wp_skip ?_)
  cases c₀
  simp_all [bodyPostS, results, Tryd.results27]

set_option maxRecDepth 100000 in
set_option maxHeartbeats 800000 in
theorem placeText_any (cb co blk off n cap : Nat) (xs : Nat → Nat) (digits : Int) (w : World) (T : Tabs cb co w) (hr : FRow w blk off n xs) (p0 : -1 ≤ digits) (p1 : digits ≤ 20) (hlen : n * 20004 ≤ 100000000) :
    Calls Tryd.prog 10 #[.slice (some ⟨blk, off, none⟩) n cap, .int .i64 digits] w fun e w' => e = .returned (.tuple #[.string (str (coordB xs digits n)), .bool true]) ∧ Below w.heap.size w w' := by
  have hmf : ∀ (fn : Fn) (first cap : Array Value) (w : World), (Instr.makeFunc fn first cap).run Tryd.prog w = .ok (.func fn first cap) w := fun _ _ _ _ => rfl
  obtain ⟨g, hg⟩ : ∃ g, w.heap.size = g := ⟨_, rfl⟩
  obtain ⟨W1, hW1⟩ : ∃ W1, (w.alloc (.cells #[.string ⟨#[]⟩] 9)).alloc (.cells #[.bool false] 4) = W1 := ⟨_, rfl⟩
  have hB1 : Below g w W1 := hW1 ▸ ((Below.refl _ _).alloc (by omega) _).alloc (by show g ≤ (w.heap.push _).size; simp; omega) _
  have hd := doorCoord_any cb co blk off n cap xs digits W1 (T.below (hg ▸ hB1)) (hr.below (hg ▸ hB1)) p0 p1 hlen
  obtain ⟨L, hL⟩ : ∃ L, coordB xs digits n = L := ⟨_, rfl⟩
  rw [hL] at hd ⊢
  have hs1 : (w.alloc (.cells #[.string ⟨#[]⟩] 9)).heap.size = g + 1 := by show (w.heap.push _).size = _; simp; exact hg
  have c1 : W1.heap[g]? = some (.cells #[.string ⟨#[]⟩] 9 (0, 0)) := by
    rw [← hW1, Below.heap_alloc _ _ g (by omega), ← hg]
    exact heap_new _ _
  have c2 : W1.heap[g + 1]? = some (.cells #[.bool false] 4 (0, 0)) := by
    rw [← hW1, ← hs1]
    exact heap_new _ _
  clear hlen T hr hL hs1
  go_enter_defers Tryd.func10, Tryd.ntmps10
  go_wp2_with fail
  refine hd.mono ?_
  rintro en w2 ⟨rfl, hB2⟩
  clear hd hW1
  have k1 : w2.heap[g]? = some (.cells #[.string ⟨#[]⟩] 9 (0, 0)) := (hB2.block g (heap_lt c1)).trans c1
  have k2 : w2.heap[g + 1]? = some (.cells #[.bool false] 4 (0, 0)) := (hB2.block (g + 1) (heap_lt c2)).trans c2
  have d1 : w2.cell? ⟨g, 0, none⟩ = some (.string ⟨#[]⟩) := by rw [Lib.cell_of_heap k1]; rfl
  have d2 : w2.cell? ⟨g + 1, 0, none⟩ = some (.bool false) := by rw [Lib.cell_of_heap k2]; rfl
  have f1 : w2.frozen? ⟨g, 0, none⟩ = false := Lib.frozen_of_heap k1 0
  have f2 : w2.frozen? ⟨g + 1, 0, none⟩ = false := Lib.frozen_of_heap k2 0
  have hB3 : Below g w w2 := hB1.trans (hB2.mono (by have := hB1.size; omega))
  clear k1 k2 c1 c2 hB1 hB2
  go_wp2
  go_region
  all_goals go_wp2
  refine leaves_cons (f := 27) (args := #[.pointer (some ⟨g, 0, none⟩), .pointer (some ⟨g + 1, 0, none⟩)]) (by simp) (by simp [go_sem]) ?_
  refine (placeText_idle ⟨g, 0, none⟩ ⟨g + 1, 0, none⟩ _).mono ?_
  rintro e u' w'' ⟨rfl, rfl, rfl⟩
  have hBf : Below g w (((w2.setCell ⟨g, 0, none⟩ (.string (str L))).setCell ⟨g, 0, none⟩ (.string (str L))).setCell ⟨g + 1, 0, none⟩ (.bool true)).drew := (((hB3.setCell (p := ⟨g, 0, none⟩) (Nat.le_refl _) _).setCell (p := ⟨g, 0, none⟩) (Nat.le_refl _) _).setCell (p := ⟨g + 1, 0, none⟩) (Nat.le_succ _) _).drew
  simp [Leaves, settle, results, Tryd.results10, go_sem, d1, d2]
  rw [hg]
  exact hBf
end Go.Proofs.YtodihpaabkplhaaDoor
