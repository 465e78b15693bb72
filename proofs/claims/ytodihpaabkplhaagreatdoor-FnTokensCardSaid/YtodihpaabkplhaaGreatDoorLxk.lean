/- upper of a text of capitals: the text. keywordToken of a text of capitals: its number. -/
import Derived.Test.YtodihpaabkplhaaGreatDoorLxb
import Derived.Laws.IdiomStrings
import Derived.RegionTactic

namespace Go.Proofs.YtodihpaabkplhaaGreatDoor
open Go.RowKit

theorem plain_add (b off i : Nat) : (⟨b, off, none⟩ : Addr).add i = ⟨b, off + i, none⟩ := by simp [Addr.add]
/-- Block g holds the text's bytes. -/
def BRow (w : World) (g : Nat) (s : ByteArray) : Prop :=
  ∃ (a : Array Value) (lo hi : Nat), w.heap[g]? = some (.cells a 5 (lo, hi)) ∧ s.size ≤ lo ∧ ∀ i, i < s.size → a[i]? = some (.int .u8 (ch s i))
theorem BRow.cell {w : World} {g : Nat} {s : ByteArray} (h : BRow w g s) {i : Nat} (hi : i < s.size) : w.cell? ⟨g, i, none⟩ = some (.int .u8 (ch s i)) := by
  obtain ⟨a, lo, hh, ha, _, hc⟩ := h
  rw [Lib.cell_of_heap ha]
  exact hc i hi
theorem BRow.frozen {w : World} {g : Nat} {s : ByteArray} (h : BRow w g s) {i : Nat} (hi : i < s.size) : w.frozen? ⟨g, i, none⟩ = false := by
  obtain ⟨a, lo, hh, ha, hl, _⟩ := h
  simp [World.frozen?, ha]
  omega
theorem BRow.set {w : World} {g : Nat} {s : ByteArray} (h : BRow w g s) {i : Nat} (hi : i < s.size) : BRow (w.setCell ⟨g, i, none⟩ (.int .u8 (ch s i))) g s := by
  obtain ⟨a, lo, hh, ha, hl, hc⟩ := h
  refine ⟨a.setIfInBounds i (.int .u8 (ch s i)), lo, hh, ?_, hl, ?_⟩
  · simp [World.setCell, Array.getElem?_modify, ha]
  · intro j hj
    rw [Array.getElem?_setIfInBounds]
    split
    · rename_i e
      subst e
      have : i < a.size := by
        rcases Nat.lt_or_ge i a.size with h1 | h1
        · exact h1
        · have := hc i hi
          rw [Array.getElem?_eq_none h1] at this
          cases this
      rw [if_pos this]
    · exact hc j hj
theorem BRow.drew {w : World} {g : Nat} {s : ByteArray} (h : BRow w g s) : BRow w.drew g s := h
theorem BRow.new (w : World) (s : ByteArray) (c : Nat) : BRow (w.drew.alloc (.cells (bytesRow s c) 5 ((bytesRow s c).size, (bytesRow s c).size + 1))) w.heap.size s := by
  refine ⟨bytesRow s c, (bytesRow s c).size, (bytesRow s c).size + 1, ?_, ?_, ?_⟩
  · show (w.heap.push _)[w.heap.size]? = _
    simp
  · unfold bytesRow
    have : s.size = s.data.size := rfl
    simp
  · intro i hi
    rw [bytesRow_at s c i hi]
    have := ch_eq s i hi
    rw [← this]
    rfl

set_option maxRecDepth 100000 in
set_option maxHeartbeats 1000000 in
theorem upper_same (s : ByteArray) (w : World) (hsz : s.size ≤ 4000) (hs : ∀ i, i < s.size → ch s i < 128 ∧ greatN (ch s i) = ch s i) :
    Calls Tryz.prog 67 #[.string s] w fun e w' => e = .returned (.string s) ∧ Below w.heap.size w w' := by
  have hconv := run_bytes_of_string (P := Tryz.prog) w 9 37 5 s Tryz.underlying9 Tryz.underlying37 Tryz.underlying5
  have hnew := BRow.new w s (grownCap w s.size 0 5)
  have hB : Below w.heap.size w (w.drew.alloc (.cells (bytesRow s (grownCap w s.size 0 5)) 5 ((bytesRow s (grownCap w s.size 0 5)).size, (bytesRow s (grownCap w s.size 0 5)).size + 1))) := ((Below.refl _ w).drew).alloc (Nat.le_refl _) _
  obtain ⟨W, hW⟩ : ∃ W, w.drew.alloc (.cells (bytesRow s (grownCap w s.size 0 5)) 5 ((bytesRow s (grownCap w s.size 0 5)).size, (bytesRow s (grownCap w s.size 0 5)).size + 1)) = W := ⟨_, rfl⟩
  rw [hW] at hconv hnew hB
  obtain ⟨C, hC⟩ : ∃ C, grownCap w s.size 0 5 = C := ⟨_, rfl⟩
  rw [hC] at hconv
  obtain ⟨g, hg⟩ : ∃ g, w.heap.size = g := ⟨_, rfl⟩
  rw [hg] at hconv hnew hB ⊢
  have hback : ∀ wx : World, BRow wx g s → (convert 37 9 (.slice (some ⟨g, 0, none⟩) s.size C)).run Tryz.prog wx = .ok (.string s) wx := by
    intro wx h
    have := run_convert_bytes_back (P := Tryz.prog) wx 37 9 5 ⟨g, 0, none⟩ C s.data.toList Tryz.underlying37 Tryz.underlying5 Tryz.underlying9 (fun j hj => by
      have hj' : j < s.size := by simpa using hj
      have h1 := h.cell hj'
      have h2 := ch_eq s j hj'
      rw [plain_add, Nat.zero_add, h1, ← h2]
      simp
      first | done | rfl)
    have e1 : s.data.toList.length = s.size := by simp; first | done | rfl
    rw [e1] at this
    rw [this]
    first | done | simp
  have HS := Lib.hid hs
  have HBK := Lib.hid hback
  clear hs hback hC hW hg
  go_enter Tryz.func67, Tryz.ntmps67
  go_wp2_with fail
  go_loopg [10] s.size (fun k v wr => ∃ j : Nat, k + j = s.size ∧ v = .int .i64 (j : Int) ∧ BRow wr g s ∧ Below g w wr)
  case atStart => exact ⟨0, by omega, rfl, hnew, hB⟩
  case round =>
    clear hnew hB
    obtain ⟨j, hj, rfl, hr, hb⟩ := hrel
    cases gk with
    | zero =>
      have hlt : ¬ (j : Int) < (s.size : Int) := by omega
      have hbk := HBK.out wr hr
      go_wp2_with fail
      go_ret
      exact ⟨rfl, hb⟩
    | succ k =>
      have hjs : j < s.size := by omega
      have hlt : (j : Int) < (s.size : Int) := by omega
      have hc := hr.cell hjs
      have hf := hr.frozen hjs
      have hset := hr.set hjs
      obtain ⟨h1, h2⟩ := HS.out j hjs
      have hup := fun wx => upper_any (ch s j) wx h1
      rw [h2] at hup
      obtain ⟨c, hcc⟩ : ∃ c, ch s j = c := ⟨_, rfl⟩
      rw [hcc] at hc hset hup h1
      have HUP := Lib.hid hup
      clear hcc h2 hup
      go_wp2_with fail
      refine (HUP.out _).mono ?_
      rintro en wa ⟨rfl, rfl⟩
      go_wp2_with fail
      go_roundg k
      case measure => omega
      case rel => exact ⟨j + 1, by omega, rfl, hset, hb.setCell (p := ⟨g, j, none⟩) (Nat.le_refl _) _⟩
end Go.Proofs.YtodihpaabkplhaaGreatDoor

namespace Go.Proofs.YtodihpaabkplhaaGreatDoor
open Go.RowKit

def capL (l : List UInt8) : Prop := ∀ c ∈ l, c.toNat < 128 ∧ greatN c.toNat = c.toNat
def KW (l : List UInt8) (code : Int) : Prop := ∀ w : World, Calls Tryz.prog 48 #[.string ⟨l.toArray⟩] w fun e w' => e = .returned (.int .i64 code) ∧ Below w.heap.size w w'
theorem ch_list (l : List UInt8) (i : Nat) (h : i < l.length) : ch ⟨l.toArray⟩ i = (l[i]'h).toNat := by
  have h' : i < (⟨l.toArray⟩ : ByteArray).size := by show i < l.toArray.size; simpa using h
  rw [← ch_eq _ i h']
  rfl
theorem size_list (l : List UInt8) : (⟨l.toArray⟩ : ByteArray).size = l.length := by show l.toArray.size = _; simp
theorem upper_list (l : List UInt8) (w : World) (hl : l.length ≤ 4000) (hc : capL l) :
    Calls Tryz.prog 67 #[.string ⟨l.toArray⟩] w fun e w' => e = .returned (.string ⟨l.toArray⟩) ∧ Below w.heap.size w w' := by
  refine upper_same ⟨l.toArray⟩ w (by rw [size_list]; exact hl) (fun i hi => ?_)
  rw [size_list] at hi
  rw [ch_list l i hi]
  exact hc _ (List.getElem_mem hi)
set_option maxRecDepth 100000 in
theorem kw_0 : KW [69, 77, 80, 84, 89] 57374 := by
  intro w
  have hup := upper_list [69, 77, 80, 84, 89] w (by decide) (by unfold capL; decide)
  have HUP := Lib.hid hup
  clear hup
  go_enter Tryz.func48, Tryz.ntmps48
  go_wp2_with fail
  refine HUP.out.mono ?_
  rintro en w1 ⟨rfl, hB⟩
  go_wp2_with fail
  go_ret
  exact ⟨rfl, hB⟩
set_option maxRecDepth 100000 in
theorem kw_1 : KW [80, 79, 73, 78, 84] 57346 := by
  intro w
  have hup := upper_list [80, 79, 73, 78, 84] w (by decide) (by unfold capL; decide)
  have HUP := Lib.hid hup
  clear hup
  go_enter Tryz.func48, Tryz.ntmps48
  go_wp2_with fail
  refine HUP.out.mono ?_
  rintro en w1 ⟨rfl, hB⟩
  go_wp2_with fail
  go_ret
  exact ⟨rfl, hB⟩
set_option maxRecDepth 100000 in
theorem kw_2 : KW [80, 79, 73, 78, 84, 77] 57347 := by
  intro w
  have hup := upper_list [80, 79, 73, 78, 84, 77] w (by decide) (by unfold capL; decide)
  have HUP := Lib.hid hup
  clear hup
  go_enter Tryz.func48, Tryz.ntmps48
  go_wp2_with fail
  refine HUP.out.mono ?_
  rintro en w1 ⟨rfl, hB⟩
  go_wp2_with fail
  go_ret
  exact ⟨rfl, hB⟩
set_option maxRecDepth 100000 in
theorem kw_3 : KW [80, 79, 73, 78, 84, 90] 57348 := by
  intro w
  have hup := upper_list [80, 79, 73, 78, 84, 90] w (by decide) (by unfold capL; decide)
  have HUP := Lib.hid hup
  clear hup
  go_enter Tryz.func48, Tryz.ntmps48
  go_wp2_with fail
  refine HUP.out.mono ?_
  rintro en w1 ⟨rfl, hB⟩
  go_wp2_with fail
  go_ret
  exact ⟨rfl, hB⟩
set_option maxRecDepth 100000 in
theorem kw_4 : KW [80, 79, 73, 78, 84, 90, 77] 57349 := by
  intro w
  have hup := upper_list [80, 79, 73, 78, 84, 90, 77] w (by decide) (by unfold capL; decide)
  have HUP := Lib.hid hup
  clear hup
  go_enter Tryz.func48, Tryz.ntmps48
  go_wp2_with fail
  refine HUP.out.mono ?_
  rintro en w1 ⟨rfl, hB⟩
  go_wp2_with fail
  go_ret
  exact ⟨rfl, hB⟩
set_option maxRecDepth 100000 in
theorem kw_5 : KW [76, 73, 78, 69, 83, 84, 82, 73, 78, 71] 57350 := by
  intro w
  have hup := upper_list [76, 73, 78, 69, 83, 84, 82, 73, 78, 71] w (by decide) (by unfold capL; decide)
  have HUP := Lib.hid hup
  clear hup
  go_enter Tryz.func48, Tryz.ntmps48
  go_wp2_with fail
  refine HUP.out.mono ?_
  rintro en w1 ⟨rfl, hB⟩
  go_wp2_with fail
  go_ret
  exact ⟨rfl, hB⟩
set_option maxRecDepth 100000 in
theorem kw_6 : KW [76, 73, 78, 69, 83, 84, 82, 73, 78, 71, 77] 57351 := by
  intro w
  have hup := upper_list [76, 73, 78, 69, 83, 84, 82, 73, 78, 71, 77] w (by decide) (by unfold capL; decide)
  have HUP := Lib.hid hup
  clear hup
  go_enter Tryz.func48, Tryz.ntmps48
  go_wp2_with fail
  refine HUP.out.mono ?_
  rintro en w1 ⟨rfl, hB⟩
  go_wp2_with fail
  go_ret
  exact ⟨rfl, hB⟩
set_option maxRecDepth 100000 in
theorem kw_7 : KW [76, 73, 78, 69, 83, 84, 82, 73, 78, 71, 90] 57352 := by
  intro w
  have hup := upper_list [76, 73, 78, 69, 83, 84, 82, 73, 78, 71, 90] w (by decide) (by unfold capL; decide)
  have HUP := Lib.hid hup
  clear hup
  go_enter Tryz.func48, Tryz.ntmps48
  go_wp2_with fail
  refine HUP.out.mono ?_
  rintro en w1 ⟨rfl, hB⟩
  go_wp2_with fail
  go_ret
  exact ⟨rfl, hB⟩
set_option maxRecDepth 100000 in
theorem kw_8 : KW [76, 73, 78, 69, 83, 84, 82, 73, 78, 71, 90, 77] 57353 := by
  intro w
  have hup := upper_list [76, 73, 78, 69, 83, 84, 82, 73, 78, 71, 90, 77] w (by decide) (by unfold capL; decide)
  have HUP := Lib.hid hup
  clear hup
  go_enter Tryz.func48, Tryz.ntmps48
  go_wp2_with fail
  refine HUP.out.mono ?_
  rintro en w1 ⟨rfl, hB⟩
  go_wp2_with fail
  go_ret
  exact ⟨rfl, hB⟩
set_option maxRecDepth 100000 in
theorem kw_9 : KW [80, 79, 76, 89, 71, 79, 78] 57354 := by
  intro w
  have hup := upper_list [80, 79, 76, 89, 71, 79, 78] w (by decide) (by unfold capL; decide)
  have HUP := Lib.hid hup
  clear hup
  go_enter Tryz.func48, Tryz.ntmps48
  go_wp2_with fail
  refine HUP.out.mono ?_
  rintro en w1 ⟨rfl, hB⟩
  go_wp2_with fail
  go_ret
  exact ⟨rfl, hB⟩
set_option maxRecDepth 100000 in
theorem kw_10 : KW [80, 79, 76, 89, 71, 79, 78, 77] 57355 := by
  intro w
  have hup := upper_list [80, 79, 76, 89, 71, 79, 78, 77] w (by decide) (by unfold capL; decide)
  have HUP := Lib.hid hup
  clear hup
  go_enter Tryz.func48, Tryz.ntmps48
  go_wp2_with fail
  refine HUP.out.mono ?_
  rintro en w1 ⟨rfl, hB⟩
  go_wp2_with fail
  go_ret
  exact ⟨rfl, hB⟩
set_option maxRecDepth 100000 in
theorem kw_11 : KW [80, 79, 76, 89, 71, 79, 78, 90] 57356 := by
  intro w
  have hup := upper_list [80, 79, 76, 89, 71, 79, 78, 90] w (by decide) (by unfold capL; decide)
  have HUP := Lib.hid hup
  clear hup
  go_enter Tryz.func48, Tryz.ntmps48
  go_wp2_with fail
  refine HUP.out.mono ?_
  rintro en w1 ⟨rfl, hB⟩
  go_wp2_with fail
  go_ret
  exact ⟨rfl, hB⟩
set_option maxRecDepth 100000 in
theorem kw_12 : KW [80, 79, 76, 89, 71, 79, 78, 90, 77] 57357 := by
  intro w
  have hup := upper_list [80, 79, 76, 89, 71, 79, 78, 90, 77] w (by decide) (by unfold capL; decide)
  have HUP := Lib.hid hup
  clear hup
  go_enter Tryz.func48, Tryz.ntmps48
  go_wp2_with fail
  refine HUP.out.mono ?_
  rintro en w1 ⟨rfl, hB⟩
  go_wp2_with fail
  go_ret
  exact ⟨rfl, hB⟩
set_option maxRecDepth 100000 in
theorem kw_13 : KW [77, 85, 76, 84, 73, 80, 79, 73, 78, 84] 57358 := by
  intro w
  have hup := upper_list [77, 85, 76, 84, 73, 80, 79, 73, 78, 84] w (by decide) (by unfold capL; decide)
  have HUP := Lib.hid hup
  clear hup
  go_enter Tryz.func48, Tryz.ntmps48
  go_wp2_with fail
  refine HUP.out.mono ?_
  rintro en w1 ⟨rfl, hB⟩
  go_wp2_with fail
  go_ret
  exact ⟨rfl, hB⟩
set_option maxRecDepth 100000 in
theorem kw_14 : KW [77, 85, 76, 84, 73, 80, 79, 73, 78, 84, 77] 57359 := by
  intro w
  have hup := upper_list [77, 85, 76, 84, 73, 80, 79, 73, 78, 84, 77] w (by decide) (by unfold capL; decide)
  have HUP := Lib.hid hup
  clear hup
  go_enter Tryz.func48, Tryz.ntmps48
  go_wp2_with fail
  refine HUP.out.mono ?_
  rintro en w1 ⟨rfl, hB⟩
  go_wp2_with fail
  go_ret
  exact ⟨rfl, hB⟩
set_option maxRecDepth 100000 in
theorem kw_15 : KW [77, 85, 76, 84, 73, 80, 79, 73, 78, 84, 90] 57360 := by
  intro w
  have hup := upper_list [77, 85, 76, 84, 73, 80, 79, 73, 78, 84, 90] w (by decide) (by unfold capL; decide)
  have HUP := Lib.hid hup
  clear hup
  go_enter Tryz.func48, Tryz.ntmps48
  go_wp2_with fail
  refine HUP.out.mono ?_
  rintro en w1 ⟨rfl, hB⟩
  go_wp2_with fail
  go_ret
  exact ⟨rfl, hB⟩
set_option maxRecDepth 100000 in
theorem kw_16 : KW [77, 85, 76, 84, 73, 80, 79, 73, 78, 84, 90, 77] 57361 := by
  intro w
  have hup := upper_list [77, 85, 76, 84, 73, 80, 79, 73, 78, 84, 90, 77] w (by decide) (by unfold capL; decide)
  have HUP := Lib.hid hup
  clear hup
  go_enter Tryz.func48, Tryz.ntmps48
  go_wp2_with fail
  refine HUP.out.mono ?_
  rintro en w1 ⟨rfl, hB⟩
  go_wp2_with fail
  go_ret
  exact ⟨rfl, hB⟩
set_option maxRecDepth 100000 in
theorem kw_17 : KW [77, 85, 76, 84, 73, 76, 73, 78, 69, 83, 84, 82, 73, 78, 71] 57362 := by
  intro w
  have hup := upper_list [77, 85, 76, 84, 73, 76, 73, 78, 69, 83, 84, 82, 73, 78, 71] w (by decide) (by unfold capL; decide)
  have HUP := Lib.hid hup
  clear hup
  go_enter Tryz.func48, Tryz.ntmps48
  go_wp2_with fail
  refine HUP.out.mono ?_
  rintro en w1 ⟨rfl, hB⟩
  go_wp2_with fail
  go_ret
  exact ⟨rfl, hB⟩
set_option maxRecDepth 100000 in
theorem kw_18 : KW [77, 85, 76, 84, 73, 76, 73, 78, 69, 83, 84, 82, 73, 78, 71, 77] 57363 := by
  intro w
  have hup := upper_list [77, 85, 76, 84, 73, 76, 73, 78, 69, 83, 84, 82, 73, 78, 71, 77] w (by decide) (by unfold capL; decide)
  have HUP := Lib.hid hup
  clear hup
  go_enter Tryz.func48, Tryz.ntmps48
  go_wp2_with fail
  refine HUP.out.mono ?_
  rintro en w1 ⟨rfl, hB⟩
  go_wp2_with fail
  go_ret
  exact ⟨rfl, hB⟩
set_option maxRecDepth 100000 in
theorem kw_19 : KW [77, 85, 76, 84, 73, 76, 73, 78, 69, 83, 84, 82, 73, 78, 71, 90] 57364 := by
  intro w
  have hup := upper_list [77, 85, 76, 84, 73, 76, 73, 78, 69, 83, 84, 82, 73, 78, 71, 90] w (by decide) (by unfold capL; decide)
  have HUP := Lib.hid hup
  clear hup
  go_enter Tryz.func48, Tryz.ntmps48
  go_wp2_with fail
  refine HUP.out.mono ?_
  rintro en w1 ⟨rfl, hB⟩
  go_wp2_with fail
  go_ret
  exact ⟨rfl, hB⟩
set_option maxRecDepth 100000 in
theorem kw_20 : KW [77, 85, 76, 84, 73, 76, 73, 78, 69, 83, 84, 82, 73, 78, 71, 90, 77] 57365 := by
  intro w
  have hup := upper_list [77, 85, 76, 84, 73, 76, 73, 78, 69, 83, 84, 82, 73, 78, 71, 90, 77] w (by decide) (by unfold capL; decide)
  have HUP := Lib.hid hup
  clear hup
  go_enter Tryz.func48, Tryz.ntmps48
  go_wp2_with fail
  refine HUP.out.mono ?_
  rintro en w1 ⟨rfl, hB⟩
  go_wp2_with fail
  go_ret
  exact ⟨rfl, hB⟩
set_option maxRecDepth 100000 in
theorem kw_21 : KW [77, 85, 76, 84, 73, 80, 79, 76, 89, 71, 79, 78] 57366 := by
  intro w
  have hup := upper_list [77, 85, 76, 84, 73, 80, 79, 76, 89, 71, 79, 78] w (by decide) (by unfold capL; decide)
  have HUP := Lib.hid hup
  clear hup
  go_enter Tryz.func48, Tryz.ntmps48
  go_wp2_with fail
  refine HUP.out.mono ?_
  rintro en w1 ⟨rfl, hB⟩
  go_wp2_with fail
  go_ret
  exact ⟨rfl, hB⟩
set_option maxRecDepth 100000 in
theorem kw_22 : KW [77, 85, 76, 84, 73, 80, 79, 76, 89, 71, 79, 78, 77] 57367 := by
  intro w
  have hup := upper_list [77, 85, 76, 84, 73, 80, 79, 76, 89, 71, 79, 78, 77] w (by decide) (by unfold capL; decide)
  have HUP := Lib.hid hup
  clear hup
  go_enter Tryz.func48, Tryz.ntmps48
  go_wp2_with fail
  refine HUP.out.mono ?_
  rintro en w1 ⟨rfl, hB⟩
  go_wp2_with fail
  go_ret
  exact ⟨rfl, hB⟩
set_option maxRecDepth 100000 in
theorem kw_23 : KW [77, 85, 76, 84, 73, 80, 79, 76, 89, 71, 79, 78, 90] 57368 := by
  intro w
  have hup := upper_list [77, 85, 76, 84, 73, 80, 79, 76, 89, 71, 79, 78, 90] w (by decide) (by unfold capL; decide)
  have HUP := Lib.hid hup
  clear hup
  go_enter Tryz.func48, Tryz.ntmps48
  go_wp2_with fail
  refine HUP.out.mono ?_
  rintro en w1 ⟨rfl, hB⟩
  go_wp2_with fail
  go_ret
  exact ⟨rfl, hB⟩
set_option maxRecDepth 100000 in
theorem kw_24 : KW [77, 85, 76, 84, 73, 80, 79, 76, 89, 71, 79, 78, 90, 77] 57369 := by
  intro w
  have hup := upper_list [77, 85, 76, 84, 73, 80, 79, 76, 89, 71, 79, 78, 90, 77] w (by decide) (by unfold capL; decide)
  have HUP := Lib.hid hup
  clear hup
  go_enter Tryz.func48, Tryz.ntmps48
  go_wp2_with fail
  refine HUP.out.mono ?_
  rintro en w1 ⟨rfl, hB⟩
  go_wp2_with fail
  go_ret
  exact ⟨rfl, hB⟩
set_option maxRecDepth 100000 in
theorem kw_25 : KW [71, 69, 79, 77, 69, 84, 82, 89, 67, 79, 76, 76, 69, 67, 84, 73, 79, 78] 57370 := by
  intro w
  have hup := upper_list [71, 69, 79, 77, 69, 84, 82, 89, 67, 79, 76, 76, 69, 67, 84, 73, 79, 78] w (by decide) (by unfold capL; decide)
  have HUP := Lib.hid hup
  clear hup
  go_enter Tryz.func48, Tryz.ntmps48
  go_wp2_with fail
  refine HUP.out.mono ?_
  rintro en w1 ⟨rfl, hB⟩
  go_wp2_with fail
  go_ret
  exact ⟨rfl, hB⟩
set_option maxRecDepth 100000 in
theorem kw_26 : KW [71, 69, 79, 77, 69, 84, 82, 89, 67, 79, 76, 76, 69, 67, 84, 73, 79, 78, 77] 57371 := by
  intro w
  have hup := upper_list [71, 69, 79, 77, 69, 84, 82, 89, 67, 79, 76, 76, 69, 67, 84, 73, 79, 78, 77] w (by decide) (by unfold capL; decide)
  have HUP := Lib.hid hup
  clear hup
  go_enter Tryz.func48, Tryz.ntmps48
  go_wp2_with fail
  refine HUP.out.mono ?_
  rintro en w1 ⟨rfl, hB⟩
  go_wp2_with fail
  go_ret
  exact ⟨rfl, hB⟩
set_option maxRecDepth 100000 in
theorem kw_27 : KW [71, 69, 79, 77, 69, 84, 82, 89, 67, 79, 76, 76, 69, 67, 84, 73, 79, 78, 90] 57372 := by
  intro w
  have hup := upper_list [71, 69, 79, 77, 69, 84, 82, 89, 67, 79, 76, 76, 69, 67, 84, 73, 79, 78, 90] w (by decide) (by unfold capL; decide)
  have HUP := Lib.hid hup
  clear hup
  go_enter Tryz.func48, Tryz.ntmps48
  go_wp2_with fail
  refine HUP.out.mono ?_
  rintro en w1 ⟨rfl, hB⟩
  go_wp2_with fail
  go_ret
  exact ⟨rfl, hB⟩
set_option maxRecDepth 100000 in
theorem kw_28 : KW [71, 69, 79, 77, 69, 84, 82, 89, 67, 79, 76, 76, 69, 67, 84, 73, 79, 78, 90, 77] 57373 := by
  intro w
  have hup := upper_list [71, 69, 79, 77, 69, 84, 82, 89, 67, 79, 76, 76, 69, 67, 84, 73, 79, 78, 90, 77] w (by decide) (by unfold capL; decide)
  have HUP := Lib.hid hup
  clear hup
  go_enter Tryz.func48, Tryz.ntmps48
  go_wp2_with fail
  refine HUP.out.mono ?_
  rintro en w1 ⟨rfl, hB⟩
  go_wp2_with fail
  go_ret
  exact ⟨rfl, hB⟩
theorem kw_pairs : ∀ p ∈ pairsN, KW (nameN p.1 p.2) (codeW ⟨0, p.1, p.2, false, 0⟩) := by
  have h : ∀ p ∈ [1, 2, 3, 4, 5, 6, 7].flatMap (fun k => [(k, 0), (k, 2), (k, 3), (k, 4)]), KW (nameN p.1 p.2) (codeW ⟨0, p.1, p.2, false, 0⟩) := by
    intro p hp
    simp only [List.flatMap_cons, List.flatMap_nil, List.append_nil, List.cons_append, List.nil_append, List.mem_cons, List.not_mem_nil, or_false] at hp
    rcases hp with rfl | rfl | rfl | rfl | rfl | rfl | rfl | rfl | rfl | rfl | rfl | rfl | rfl | rfl | rfl | rfl | rfl | rfl | rfl | rfl | rfl | rfl | rfl | rfl | rfl | rfl | rfl | rfl
    · exact kw_1
    · exact kw_3
    · exact kw_2
    · exact kw_4
    · exact kw_5
    · exact kw_7
    · exact kw_6
    · exact kw_8
    · exact kw_9
    · exact kw_11
    · exact kw_10
    · exact kw_12
    · exact kw_13
    · exact kw_15
    · exact kw_14
    · exact kw_16
    · exact kw_17
    · exact kw_19
    · exact kw_18
    · exact kw_20
    · exact kw_21
    · exact kw_23
    · exact kw_22
    · exact kw_24
    · exact kw_25
    · exact kw_27
    · exact kw_26
    · exact kw_28
  exact h
theorem kw_some (l : List UInt8) (d : Wd) (h : named l = some d) : KW l (codeW d) := by
  unfold named at h
  split at h
  · rename_i e
    subst e
    cases h
    exact kw_0
  · rw [Option.map_eq_some_iff] at h
    obtain ⟨p, hp, rfl⟩ := h
    have h1 := List.mem_of_find?_eq_some hp
    have h2 := List.find?_some hp
    have h3 : l = nameN p.1 p.2 := by simpa using h2
    rw [h3]
    exact kw_pairs p h1
set_option maxRecDepth 100000 in
set_option maxHeartbeats 1000000 in
theorem kw_none (l : List UInt8) (hl : l.length ≤ 4000) (hc : capL l) (h : named l = none) : KW l 0 := by
  intro w
  have hne : ∀ m : List UInt8, (named m).isSome = true → ((⟨l.toArray⟩ : ByteArray).toList == m) = false := by
    intro m hm
    rw [ByteArray.toList_eq, beq_eq_false_iff_ne]
    intro e
    have e2 : l = m := by simpa using e
    rw [← e2, h] at hm
    cases hm
  have HUP := Lib.hid (upper_list l w hl hc)
  obtain ⟨s, hs⟩ : ∃ s : ByteArray, (⟨l.toArray⟩ : ByteArray) = s := ⟨_, rfl⟩
  rw [hs] at hne HUP ⊢
  have n0 : (s.toList == [69, 77, 80, 84, 89]) = false := hne [69, 77, 80, 84, 89] (by decide)
  have n1 : (s.toList == [80, 79, 73, 78, 84]) = false := hne [80, 79, 73, 78, 84] (by decide)
  have n2 : (s.toList == [80, 79, 73, 78, 84, 77]) = false := hne [80, 79, 73, 78, 84, 77] (by decide)
  have n3 : (s.toList == [80, 79, 73, 78, 84, 90]) = false := hne [80, 79, 73, 78, 84, 90] (by decide)
  have n4 : (s.toList == [80, 79, 73, 78, 84, 90, 77]) = false := hne [80, 79, 73, 78, 84, 90, 77] (by decide)
  have n5 : (s.toList == [76, 73, 78, 69, 83, 84, 82, 73, 78, 71]) = false := hne [76, 73, 78, 69, 83, 84, 82, 73, 78, 71] (by decide)
  have n6 : (s.toList == [76, 73, 78, 69, 83, 84, 82, 73, 78, 71, 77]) = false := hne [76, 73, 78, 69, 83, 84, 82, 73, 78, 71, 77] (by decide)
  have n7 : (s.toList == [76, 73, 78, 69, 83, 84, 82, 73, 78, 71, 90]) = false := hne [76, 73, 78, 69, 83, 84, 82, 73, 78, 71, 90] (by decide)
  have n8 : (s.toList == [76, 73, 78, 69, 83, 84, 82, 73, 78, 71, 90, 77]) = false := hne [76, 73, 78, 69, 83, 84, 82, 73, 78, 71, 90, 77] (by decide)
  have n9 : (s.toList == [80, 79, 76, 89, 71, 79, 78]) = false := hne [80, 79, 76, 89, 71, 79, 78] (by decide)
  have n10 : (s.toList == [80, 79, 76, 89, 71, 79, 78, 77]) = false := hne [80, 79, 76, 89, 71, 79, 78, 77] (by decide)
  have n11 : (s.toList == [80, 79, 76, 89, 71, 79, 78, 90]) = false := hne [80, 79, 76, 89, 71, 79, 78, 90] (by decide)
  have n12 : (s.toList == [80, 79, 76, 89, 71, 79, 78, 90, 77]) = false := hne [80, 79, 76, 89, 71, 79, 78, 90, 77] (by decide)
  have n13 : (s.toList == [77, 85, 76, 84, 73, 80, 79, 73, 78, 84]) = false := hne [77, 85, 76, 84, 73, 80, 79, 73, 78, 84] (by decide)
  have n14 : (s.toList == [77, 85, 76, 84, 73, 80, 79, 73, 78, 84, 77]) = false := hne [77, 85, 76, 84, 73, 80, 79, 73, 78, 84, 77] (by decide)
  have n15 : (s.toList == [77, 85, 76, 84, 73, 80, 79, 73, 78, 84, 90]) = false := hne [77, 85, 76, 84, 73, 80, 79, 73, 78, 84, 90] (by decide)
  have n16 : (s.toList == [77, 85, 76, 84, 73, 80, 79, 73, 78, 84, 90, 77]) = false := hne [77, 85, 76, 84, 73, 80, 79, 73, 78, 84, 90, 77] (by decide)
  have n17 : (s.toList == [77, 85, 76, 84, 73, 76, 73, 78, 69, 83, 84, 82, 73, 78, 71]) = false := hne [77, 85, 76, 84, 73, 76, 73, 78, 69, 83, 84, 82, 73, 78, 71] (by decide)
  have n18 : (s.toList == [77, 85, 76, 84, 73, 76, 73, 78, 69, 83, 84, 82, 73, 78, 71, 77]) = false := hne [77, 85, 76, 84, 73, 76, 73, 78, 69, 83, 84, 82, 73, 78, 71, 77] (by decide)
  have n19 : (s.toList == [77, 85, 76, 84, 73, 76, 73, 78, 69, 83, 84, 82, 73, 78, 71, 90]) = false := hne [77, 85, 76, 84, 73, 76, 73, 78, 69, 83, 84, 82, 73, 78, 71, 90] (by decide)
  have n20 : (s.toList == [77, 85, 76, 84, 73, 76, 73, 78, 69, 83, 84, 82, 73, 78, 71, 90, 77]) = false := hne [77, 85, 76, 84, 73, 76, 73, 78, 69, 83, 84, 82, 73, 78, 71, 90, 77] (by decide)
  have n21 : (s.toList == [77, 85, 76, 84, 73, 80, 79, 76, 89, 71, 79, 78]) = false := hne [77, 85, 76, 84, 73, 80, 79, 76, 89, 71, 79, 78] (by decide)
  have n22 : (s.toList == [77, 85, 76, 84, 73, 80, 79, 76, 89, 71, 79, 78, 77]) = false := hne [77, 85, 76, 84, 73, 80, 79, 76, 89, 71, 79, 78, 77] (by decide)
  have n23 : (s.toList == [77, 85, 76, 84, 73, 80, 79, 76, 89, 71, 79, 78, 90]) = false := hne [77, 85, 76, 84, 73, 80, 79, 76, 89, 71, 79, 78, 90] (by decide)
  have n24 : (s.toList == [77, 85, 76, 84, 73, 80, 79, 76, 89, 71, 79, 78, 90, 77]) = false := hne [77, 85, 76, 84, 73, 80, 79, 76, 89, 71, 79, 78, 90, 77] (by decide)
  have n25 : (s.toList == [71, 69, 79, 77, 69, 84, 82, 89, 67, 79, 76, 76, 69, 67, 84, 73, 79, 78]) = false := hne [71, 69, 79, 77, 69, 84, 82, 89, 67, 79, 76, 76, 69, 67, 84, 73, 79, 78] (by decide)
  have n26 : (s.toList == [71, 69, 79, 77, 69, 84, 82, 89, 67, 79, 76, 76, 69, 67, 84, 73, 79, 78, 77]) = false := hne [71, 69, 79, 77, 69, 84, 82, 89, 67, 79, 76, 76, 69, 67, 84, 73, 79, 78, 77] (by decide)
  have n27 : (s.toList == [71, 69, 79, 77, 69, 84, 82, 89, 67, 79, 76, 76, 69, 67, 84, 73, 79, 78, 90]) = false := hne [71, 69, 79, 77, 69, 84, 82, 89, 67, 79, 76, 76, 69, 67, 84, 73, 79, 78, 90] (by decide)
  have n28 : (s.toList == [71, 69, 79, 77, 69, 84, 82, 89, 67, 79, 76, 76, 69, 67, 84, 73, 79, 78, 90, 77]) = false := hne [71, 69, 79, 77, 69, 84, 82, 89, 67, 79, 76, 76, 69, 67, 84, 73, 79, 78, 90, 77] (by decide)
  clear hne hs
  go_enter Tryz.func48, Tryz.ntmps48
  go_wp2_with fail
  refine HUP.out.mono ?_
  rintro en w1 ⟨rfl, hB⟩
  go_wp2_with fail
  go_ret
  exact ⟨rfl, hB⟩
end Go.Proofs.YtodihpaabkplhaaGreatDoor
