/- spec.LayoutOf, spec.kindName, spec.WriteWKT, xFrom. -/
import Derived.Test.YtodihpaabkplhaaDoorBdy
import Derived.Test.YtodihpaabkplhaaDoorGeg
import Derived.Deep.RegionWith
namespace Go.Proofs.YtodihpaabkplhaaDoor
open Go.RowKit

theorem layoutOf_plain {sr : Int} (k l : Int) (fv ev sv kv : Value) (w : World) (hk : k ≠ 7) :
    Calls Tryd.prog 34 #[geomV k l sr fv ev sv kv] w fun e w' => e = .returned (.int .i64 l) ∧ Below w.heap.size w w' := by
  obtain ⟨hbx, hB⟩ := boxed w k l sr fv ev sv kv
  have hk' : (k != 7) = true := bne_iff_ne.2 hk
  clear hk
  unfold geomV
  go_enter Tryd.func34, Tryd.ntmps34
  go_wp2_with fail
  go_ret
  exact ⟨rfl, hB⟩

def kindB (k : Int) : List UInt8 := if k = 4 then [77, 85, 76, 84, 73, 80, 79, 73, 78, 84] else if k = 5 then [77, 85, 76, 84, 73, 76, 73, 78, 69, 83, 84, 82, 73, 78, 71] else [77, 85, 76, 84, 73, 80, 79, 76, 89, 71, 79, 78]
def tagB (l : Int) : List UInt8 := if l = 1 then [] else if l = 2 then [90, 32] else if l = 3 then [77, 32] else [90, 77, 32]
theorem kindName_any (k : Int) (w : World) (hk : k = 4 ∨ k = 5 ∨ k = 6) :
    Calls Tryd.prog 37 #[.int .i64 k] w fun e w' => e = .returned (.string (str (kindB k))) ∧ w = w' := by
  rcases hk with rfl | rfl | rfl
  all_goals
    go_enter Tryd.func37, Tryd.ntmps37
    go_wp2_with fail
    go_ret
    exact ⟨rfl, rfl⟩

/-- What stands ahead of the brackets. -/
def headB (k l : Int) : List UInt8 := kindB k ++ [32] ++ tagB l

set_option maxRecDepth 100000 in
set_option maxHeartbeats 3200000 in
theorem wkt_any {sr : Int} (k l d : Int) (fv ev sv kv : Value) (txt : List UInt8) (w : World) (hk : k = 4 ∨ k = 5 ∨ k = 6) (hl1 : 1 ≤ l) (hl4 : l ≤ 4) (hlen : txt.length ≤ 1000000000)
    (hbody : ∀ w', Below w.heap.size w w' → Calls Tryd.prog 35 #[geomV k l sr fv ev sv kv, .int .i64 (strideI l), .int .i64 d, .bool true] w' fun e w'' => e = .returned (.tuple #[.string (str txt), .bool true]) ∧ Below w'.heap.size w' w'') :
    Calls Tryd.prog 16 #[geomV k l sr fv ev sv kv, .int .i64 d] w fun e w' => e = .returned (.tuple #[.string (str (headB k l ++ txt)), .bool true]) ∧ Below w.heap.size w w' := by
  obtain ⟨hbx, hB⟩ := boxed w k l sr fv ev sv kv
  have hlo := fun w' => layoutOf_plain (sr := sr) k l fv ev sv kv w' (by omega)
  have hkn := fun w' => kindName_any k w' hk
  have hst := fun w' => stride_any l w'
  have hl : l = 1 ∨ l = 2 ∨ l = 3 ∨ l = 4 := by omega
  have hkI : (k == 7) = false := by rw [beq_eq_false_iff_ne]; omega
  obtain ⟨N, hN⟩ : ∃ N, str (kindB k) = N := ⟨_, rfl⟩
  have hNs : N.size ≤ 15 := by rw [← hN]; rcases hk with rfl | rfl | rfl <;> decide
  obtain ⟨TT, hTT⟩ : ∃ TT, str txt = TT := ⟨_, rfl⟩
  have hTs : TT.size ≤ 1000000000 := by rw [← hTT, str_size]; exact hlen
  have HH : ∀ l', str (kindB k) ++ str [32] ++ str (tagB l') ++ str txt = str (headB k l' ++ txt) := fun l' => by rw [str_append, str_append, str_append]; rfl
  rw [hN, hTT] at HH
  rw [hN] at hkn
  have HHH := Lib.hid HH
  have HNs := Lib.hid hNs
  have HTs := Lib.hid hTs
  rw [hTT] at hbody
  clear HH hN hNs hTs hTT
  have HB := Lib.hid hbody
  clear hbody hk
  unfold geomV at hlo ⊢
  rcases hl with rfl | rfl | rfl | rfl
  · go_enter Tryd.func16, Tryd.ntmps16
    go_wp2_with fail
    refine (hlo _).mono ?_
    rintro en1 w1 ⟨rfl, hB1⟩
    have hbx1 := hbx.below hB1
    have hBw := hB.trans (hB1.mono hB.size)
    obtain ⟨c0, c1, c2, c3, c4, c5, c6⟩ := hbx1.cells7
    have hbW : Below w.heap.size w w1.drew := hBw.drew
    have hbxW : Box w1.drew w.heap.size 33 (geomC k 1 sr fv ev sv kv) := Box.drew hbx1
    have hbd := HB.out w1.drew hbW
    unfold geomV at hbd
    have HBW := Lib.hid hbW
    clear hlo hB hB1 hbx hbW
    go_wp2_with fail
    go_region_with (first | (go_at_call 36; refine (hst _).mono ?_; rintro en2 w2 ⟨rfl, rfl⟩) | (go_at_call 35; refine hbd.mono ?_; rintro en3 w3 ⟨rfl, hB3⟩))
    all_goals
      have d0 := (hbxW.below hB3).cells7.1
      have hBf := HBW.out.trans (hB3.mono HBW.out.size)
      clear hbd hst hbxW hbx1 c0 c1 c2 c3 c4 c5 c6
      go_wp2_with fail
      refine (hkn _).mono ?_
      rintro en4 w4 ⟨rfl, rfl⟩
      clear hkn d0
      have hR := HHH.out 1
      change N ++ (⟨#[32]⟩ : ByteArray) ++ (⟨#[]⟩ : ByteArray) ++ TT = _ at hR
      obtain ⟨R, hRR⟩ : ∃ R, str (headB k 1 ++ txt) = R := ⟨_, rfl⟩
      rw [hRR] at hR
      have hz1 : ¬ 9223372036854775807 < N.size + 1 := by have := HNs.out; omega
      have hs1 : (N ++ (⟨#[32]⟩ : ByteArray)).size = N.size + 1 := by rw [ByteArray.size_append]; rfl
      obtain ⟨A1, hA1⟩ : ∃ A1, N ++ (⟨#[32]⟩ : ByteArray) = A1 := ⟨_, rfl⟩
      rw [hA1] at hR hs1
      have hz2 : ¬ 9223372036854775807 < A1.size + 0 := by have := HNs.out; omega
      have hs2 : (A1 ++ (⟨#[]⟩ : ByteArray)).size = A1.size + 0 := by rw [ByteArray.size_append]; rfl
      obtain ⟨A2, hA2⟩ : ∃ A2, A1 ++ (⟨#[]⟩ : ByteArray) = A2 := ⟨_, rfl⟩
      rw [hA2] at hR hs2
      have hz3 : ¬ 9223372036854775807 < A2.size + TT.size := by have := HNs.out; have := HTs.out; omega
      have HRR := Lib.hid hRR
      clear hRR hs1 hs2
      go_wp2_with fail
      go_ret2
      exact ⟨by rw [HRR.out]; rfl, hBf⟩
  · go_enter Tryd.func16, Tryd.ntmps16
    go_wp2_with fail
    refine (hlo _).mono ?_
    rintro en1 w1 ⟨rfl, hB1⟩
    have hbx1 := hbx.below hB1
    have hBw := hB.trans (hB1.mono hB.size)
    obtain ⟨c0, c1, c2, c3, c4, c5, c6⟩ := hbx1.cells7
    have hbW : Below w.heap.size w (w1.alloc (.cells #[.string ⟨#[90, 32]⟩, .string ⟨#[77, 32]⟩, .string ⟨#[90, 77, 32]⟩] 9)).drew := (hBw.alloc hBw.size _).drew
    have hbxW : Box (w1.alloc (.cells #[.string ⟨#[90, 32]⟩, .string ⟨#[77, 32]⟩, .string ⟨#[90, 77, 32]⟩] 9)).drew w.heap.size 33 (geomC k 2 sr fv ev sv kv) := Box.drew (hbx1.below ((Below.refl _ _).alloc (Nat.le_refl _) _))
    have hbd := HB.out (w1.alloc (.cells #[.string ⟨#[90, 32]⟩, .string ⟨#[77, 32]⟩, .string ⟨#[90, 77, 32]⟩] 9)).drew hbW
    unfold geomV at hbd
    have q0 := fun o => cell_kept ((Below.refl w1.heap.size w1).alloc (Nat.le_refl _) o) c0
    have q1 := fun o => cell_kept ((Below.refl w1.heap.size w1).alloc (Nat.le_refl _) o) c1
    have q2 := fun o => cell_kept ((Below.refl w1.heap.size w1).alloc (Nat.le_refl _) o) c2
    have q3 := fun o => cell_kept ((Below.refl w1.heap.size w1).alloc (Nat.le_refl _) o) c3
    have q4 := fun o => cell_kept ((Below.refl w1.heap.size w1).alloc (Nat.le_refl _) o) c4
    have q5 := fun o => cell_kept ((Below.refl w1.heap.size w1).alloc (Nat.le_refl _) o) c5
    have q6 := fun o => cell_kept ((Below.refl w1.heap.size w1).alloc (Nat.le_refl _) o) c6
    have HBW := Lib.hid hbW
    clear hlo hB hB1 hbx hbW
    go_wp2_with fail
    go_region_with (first | (go_at_call 36; refine (hst _).mono ?_; rintro en2 w2 ⟨rfl, rfl⟩) | (go_at_call 35; refine hbd.mono ?_; rintro en3 w3 ⟨rfl, hB3⟩))
    all_goals
      have d0 := (hbxW.below hB3).cells7.1
      have hBf := HBW.out.trans (hB3.mono HBW.out.size)
      clear hbd hst hbxW hbx1 c0 c1 c2 c3 c4 c5 c6 q0 q1 q2 q3 q4 q5 q6
      go_wp2_with fail
      refine (hkn _).mono ?_
      rintro en4 w4 ⟨rfl, rfl⟩
      clear hkn d0
      have hR := HHH.out 2
      change N ++ (⟨#[32]⟩ : ByteArray) ++ (⟨#[90, 32]⟩ : ByteArray) ++ TT = _ at hR
      obtain ⟨R, hRR⟩ : ∃ R, str (headB k 2 ++ txt) = R := ⟨_, rfl⟩
      rw [hRR] at hR
      have hz1 : ¬ 9223372036854775807 < N.size + 1 := by have := HNs.out; omega
      have hs1 : (N ++ (⟨#[32]⟩ : ByteArray)).size = N.size + 1 := by rw [ByteArray.size_append]; rfl
      obtain ⟨A1, hA1⟩ : ∃ A1, N ++ (⟨#[32]⟩ : ByteArray) = A1 := ⟨_, rfl⟩
      rw [hA1] at hR hs1
      have hz2 : ¬ 9223372036854775807 < A1.size + 2 := by have := HNs.out; omega
      have hs2 : (A1 ++ (⟨#[90, 32]⟩ : ByteArray)).size = A1.size + 2 := by rw [ByteArray.size_append]; rfl
      obtain ⟨A2, hA2⟩ : ∃ A2, A1 ++ (⟨#[90, 32]⟩ : ByteArray) = A2 := ⟨_, rfl⟩
      rw [hA2] at hR hs2
      have hz3 : ¬ 9223372036854775807 < A2.size + TT.size := by have := HNs.out; have := HTs.out; omega
      have HRR := Lib.hid hRR
      clear hRR hs1 hs2
      go_wp2_with fail
      go_ret2
      exact ⟨by rw [HRR.out]; rfl, hBf⟩
  · go_enter Tryd.func16, Tryd.ntmps16
    go_wp2_with fail
    refine (hlo _).mono ?_
    rintro en1 w1 ⟨rfl, hB1⟩
    have hbx1 := hbx.below hB1
    have hBw := hB.trans (hB1.mono hB.size)
    obtain ⟨c0, c1, c2, c3, c4, c5, c6⟩ := hbx1.cells7
    have hbW : Below w.heap.size w (w1.alloc (.cells #[.string ⟨#[90, 32]⟩, .string ⟨#[77, 32]⟩, .string ⟨#[90, 77, 32]⟩] 9)).drew := (hBw.alloc hBw.size _).drew
    have hbxW : Box (w1.alloc (.cells #[.string ⟨#[90, 32]⟩, .string ⟨#[77, 32]⟩, .string ⟨#[90, 77, 32]⟩] 9)).drew w.heap.size 33 (geomC k 3 sr fv ev sv kv) := Box.drew (hbx1.below ((Below.refl _ _).alloc (Nat.le_refl _) _))
    have hbd := HB.out (w1.alloc (.cells #[.string ⟨#[90, 32]⟩, .string ⟨#[77, 32]⟩, .string ⟨#[90, 77, 32]⟩] 9)).drew hbW
    unfold geomV at hbd
    have q0 := fun o => cell_kept ((Below.refl w1.heap.size w1).alloc (Nat.le_refl _) o) c0
    have q1 := fun o => cell_kept ((Below.refl w1.heap.size w1).alloc (Nat.le_refl _) o) c1
    have q2 := fun o => cell_kept ((Below.refl w1.heap.size w1).alloc (Nat.le_refl _) o) c2
    have q3 := fun o => cell_kept ((Below.refl w1.heap.size w1).alloc (Nat.le_refl _) o) c3
    have q4 := fun o => cell_kept ((Below.refl w1.heap.size w1).alloc (Nat.le_refl _) o) c4
    have q5 := fun o => cell_kept ((Below.refl w1.heap.size w1).alloc (Nat.le_refl _) o) c5
    have q6 := fun o => cell_kept ((Below.refl w1.heap.size w1).alloc (Nat.le_refl _) o) c6
    have HBW := Lib.hid hbW
    clear hlo hB hB1 hbx hbW
    go_wp2_with fail
    go_region_with (first | (go_at_call 36; refine (hst _).mono ?_; rintro en2 w2 ⟨rfl, rfl⟩) | (go_at_call 35; refine hbd.mono ?_; rintro en3 w3 ⟨rfl, hB3⟩))
    all_goals
      have d0 := (hbxW.below hB3).cells7.1
      have hBf := HBW.out.trans (hB3.mono HBW.out.size)
      clear hbd hst hbxW hbx1 c0 c1 c2 c3 c4 c5 c6 q0 q1 q2 q3 q4 q5 q6
      go_wp2_with fail
      refine (hkn _).mono ?_
      rintro en4 w4 ⟨rfl, rfl⟩
      clear hkn d0
      have hR := HHH.out 3
      change N ++ (⟨#[32]⟩ : ByteArray) ++ (⟨#[77, 32]⟩ : ByteArray) ++ TT = _ at hR
      obtain ⟨R, hRR⟩ : ∃ R, str (headB k 3 ++ txt) = R := ⟨_, rfl⟩
      rw [hRR] at hR
      have hz1 : ¬ 9223372036854775807 < N.size + 1 := by have := HNs.out; omega
      have hs1 : (N ++ (⟨#[32]⟩ : ByteArray)).size = N.size + 1 := by rw [ByteArray.size_append]; rfl
      obtain ⟨A1, hA1⟩ : ∃ A1, N ++ (⟨#[32]⟩ : ByteArray) = A1 := ⟨_, rfl⟩
      rw [hA1] at hR hs1
      have hz2 : ¬ 9223372036854775807 < A1.size + 2 := by have := HNs.out; omega
      have hs2 : (A1 ++ (⟨#[77, 32]⟩ : ByteArray)).size = A1.size + 2 := by rw [ByteArray.size_append]; rfl
      obtain ⟨A2, hA2⟩ : ∃ A2, A1 ++ (⟨#[77, 32]⟩ : ByteArray) = A2 := ⟨_, rfl⟩
      rw [hA2] at hR hs2
      have hz3 : ¬ 9223372036854775807 < A2.size + TT.size := by have := HNs.out; have := HTs.out; omega
      have HRR := Lib.hid hRR
      clear hRR hs1 hs2
      go_wp2_with fail
      go_ret2
      exact ⟨by rw [HRR.out]; rfl, hBf⟩
  · go_enter Tryd.func16, Tryd.ntmps16
    go_wp2_with fail
    refine (hlo _).mono ?_
    rintro en1 w1 ⟨rfl, hB1⟩
    have hbx1 := hbx.below hB1
    have hBw := hB.trans (hB1.mono hB.size)
    obtain ⟨c0, c1, c2, c3, c4, c5, c6⟩ := hbx1.cells7
    have hbW : Below w.heap.size w (w1.alloc (.cells #[.string ⟨#[90, 32]⟩, .string ⟨#[77, 32]⟩, .string ⟨#[90, 77, 32]⟩] 9)).drew := (hBw.alloc hBw.size _).drew
    have hbxW : Box (w1.alloc (.cells #[.string ⟨#[90, 32]⟩, .string ⟨#[77, 32]⟩, .string ⟨#[90, 77, 32]⟩] 9)).drew w.heap.size 33 (geomC k 4 sr fv ev sv kv) := Box.drew (hbx1.below ((Below.refl _ _).alloc (Nat.le_refl _) _))
    have hbd := HB.out (w1.alloc (.cells #[.string ⟨#[90, 32]⟩, .string ⟨#[77, 32]⟩, .string ⟨#[90, 77, 32]⟩] 9)).drew hbW
    unfold geomV at hbd
    have q0 := fun o => cell_kept ((Below.refl w1.heap.size w1).alloc (Nat.le_refl _) o) c0
    have q1 := fun o => cell_kept ((Below.refl w1.heap.size w1).alloc (Nat.le_refl _) o) c1
    have q2 := fun o => cell_kept ((Below.refl w1.heap.size w1).alloc (Nat.le_refl _) o) c2
    have q3 := fun o => cell_kept ((Below.refl w1.heap.size w1).alloc (Nat.le_refl _) o) c3
    have q4 := fun o => cell_kept ((Below.refl w1.heap.size w1).alloc (Nat.le_refl _) o) c4
    have q5 := fun o => cell_kept ((Below.refl w1.heap.size w1).alloc (Nat.le_refl _) o) c5
    have q6 := fun o => cell_kept ((Below.refl w1.heap.size w1).alloc (Nat.le_refl _) o) c6
    have HBW := Lib.hid hbW
    clear hlo hB hB1 hbx hbW
    go_wp2_with fail
    go_region_with (first | (go_at_call 36; refine (hst _).mono ?_; rintro en2 w2 ⟨rfl, rfl⟩) | (go_at_call 35; refine hbd.mono ?_; rintro en3 w3 ⟨rfl, hB3⟩))
    all_goals
      have d0 := (hbxW.below hB3).cells7.1
      have hBf := HBW.out.trans (hB3.mono HBW.out.size)
      clear hbd hst hbxW hbx1 c0 c1 c2 c3 c4 c5 c6 q0 q1 q2 q3 q4 q5 q6
      go_wp2_with fail
      refine (hkn _).mono ?_
      rintro en4 w4 ⟨rfl, rfl⟩
      clear hkn d0
      have hR := HHH.out 4
      change N ++ (⟨#[32]⟩ : ByteArray) ++ (⟨#[90, 77, 32]⟩ : ByteArray) ++ TT = _ at hR
      obtain ⟨R, hRR⟩ : ∃ R, str (headB k 4 ++ txt) = R := ⟨_, rfl⟩
      rw [hRR] at hR
      have hz1 : ¬ 9223372036854775807 < N.size + 1 := by have := HNs.out; omega
      have hs1 : (N ++ (⟨#[32]⟩ : ByteArray)).size = N.size + 1 := by rw [ByteArray.size_append]; rfl
      obtain ⟨A1, hA1⟩ : ∃ A1, N ++ (⟨#[32]⟩ : ByteArray) = A1 := ⟨_, rfl⟩
      rw [hA1] at hR hs1
      have hz2 : ¬ 9223372036854775807 < A1.size + 3 := by have := HNs.out; omega
      have hs2 : (A1 ++ (⟨#[90, 77, 32]⟩ : ByteArray)).size = A1.size + 3 := by rw [ByteArray.size_append]; rfl
      obtain ⟨A2, hA2⟩ : ∃ A2, A1 ++ (⟨#[90, 77, 32]⟩ : ByteArray) = A2 := ⟨_, rfl⟩
      rw [hA2] at hR hs2
      have hz3 : ¬ 9223372036854775807 < A2.size + TT.size := by have := HNs.out; have := HTs.out; omega
      have HRR := Lib.hid hRR
      clear hRR hs1 hs2
      go_wp2_with fail
      go_ret2
      exact ⟨by rw [HRR.out]; rfl, hBf⟩

/-- What stands from the first bracket on. -/
theorem dropB_get (l r : List UInt8) (i : Nat) (hi : i < l.length) (S : ByteArray) (hS : S = str (l ++ r)) (h : i < S.size) : S[i]'h = l[i] := by
  have h1 := get_data S i h
  have h2 : S.data[i]? = some l[i] := by
    rw [hS]
    show (l ++ r).toArray[i]? = some l[i]
    rw [List.getElem?_toArray, List.getElem?_append_left hi, List.getElem?_eq_getElem hi]
  exact Option.some.inj (h1.symm.trans h2)

set_option maxRecDepth 100000 in
set_option maxHeartbeats 1600000 in
theorem xFrom_any (l r : List UInt8) (w : World) (hl : ∀ x ∈ l, x ≠ 40) (hlen : (l ++ [40] ++ r).length ≤ 2000000000) :
    Calls Tryd.prog 18 #[.string (str (l ++ [40] ++ r))] w fun e w' => e = .returned (.string (str ([40] ++ r))) ∧ w = w' := by
  obtain ⟨S, hS⟩ : ∃ S, str (l ++ [40] ++ r) = S := ⟨_, rfl⟩
  have hsz : S.size = (l ++ [40] ++ r).length := by rw [← hS, str_size]
  have hlt : l.length < S.size := by rw [hsz, List.length_append, List.length_append, List.length_singleton]; omega
  have hsI : (S.size : Int) ≤ 2000000000 := by omega
  obtain ⟨R, hR⟩ : ∃ R, str ([40] ++ r) = R := ⟨_, rfl⟩
  have hext : S.extract l.length S.size = R := by
    rw [← hS, ← hR]
    apply ByteArray.ext
    rw [ByteArray.data_extract, str_size]
    show ((l ++ [40] ++ r).toArray).extract l.length _ = ([40] ++ r).toArray
    rw [List.extract_toArray, List.extract_eq_take_drop, List.append_assoc, List.drop_left, List.take_of_length_le (by simp)]
  have h40 : S[l.length]'hlt = 40 := by
    subst hS
    show (l ++ [40] ++ r).toArray[l.length] = 40
    simp
  have hno : ∀ i (h : i < l.length), ((S[i]'(by omega)).toNat : Int) ≠ 40 := by
    intro i h
    rw [dropB_get l ([40] ++ r) i h S (by rw [← List.append_assoc]; exact hS.symm) (by omega)]
    intro h'
    exact hl l[i] (List.getElem_mem h) ((u8_eq_toNat l[i] 40 (by decide)).2 h')
  rw [hS, hR]
  have HS := Lib.hid hS
  have HX := Lib.hid hext
  have HN := Lib.hid hno
  have H4 := Lib.hid h40
  have HSZ := Lib.hid hsz
  clear hS hsz hext hno h40 hR hl
  go_enter Tryd.func18, Tryd.ntmps18
  go_wp2_with fail
  go_loopg [3] l.length (fun m v wr => ∃ i : Nat, i + m = l.length ∧ v = .int .i64 (i : Int) ∧ wr = w)
  case atStart => exact ⟨0, by omega, rfl, rfl⟩
  case round =>
    obtain ⟨i, hi, rfl, rfl⟩ := hrel
    have hiS : i < S.size := by omega
    cases gk with
    | zero =>
      have hil : i = l.length := by omega
      subst hil
      have hb : (((S[l.length]'hlt).toNat : Int) == 40) = true := by rw [H4.out]; rfl
      go_wp2_with fail
      go_ret
      exact ⟨by rw [← HX.out]; rfl, rfl⟩
    | succ m =>
      have hb : (((S[i]'hiS).toNat : Int) == 40) = false := by rw [beq_eq_false_iff_ne]; exact HN.out i (by omega)
      have hiI : (i : Int) ≤ 2000000000 := by omega
      go_wp2_with fail
      go_roundg m
      case measure => omega
      case rel => exact ⟨i + 1, by omega, rfl, rfl⟩

theorem head_no40 (k l : Int) : ∀ x ∈ headB k l, x ≠ 40 := by
  have h1 : ∀ x ∈ kindB k, x ≠ 40 := by
    unfold kindB
    split
    · decide
    · split <;> decide
  have h2 : ∀ x ∈ tagB l, x ≠ 40 := by
    unfold tagB
    split
    · decide
    · split
      · decide
      · split <;> decide
  intro x hx
  rcases List.mem_append.1 hx with hx | hx
  · rcases List.mem_append.1 hx with hx | hx
    · exact h1 x hx
    · have : x = 32 := by simpa using hx
      subst this
      decide
  · exact h2 x hx
theorem head_length (k l : Int) : (headB k l).length ≤ 40 := by
  have h1 : (kindB k).length ≤ 15 := by
    unfold kindB
    split
    · decide
    · split <;> decide
  have h2 : (tagB l).length ≤ 3 := by
    unfold tagB
    split
    · decide
    · split
      · decide
      · split <;> decide
  rw [headB, List.length_append, List.length_append, List.length_singleton]
  omega

theorem PartOut.bodyV {w : World} {k l : Int} {m : Nat} {ys : Nat → Nat} {en : Nat} {es : Nat → Nat} {cs : Array Value} (h : PartV w k l m ys en es cs) : ∃ fo fp eo ep, cs = #[.int .i64 k, .int .i64 l, .int .i64 0, .slice fo m fp, .slice eo en ep, .slice none 0 0, .slice none 0 0] ∧ FRowO w fo m ys := by
  obtain ⟨fo, fp, eo, ep, h1, _, h3, _⟩ := h
  exact ⟨fo, fp, eo, ep, h1, h3.toO⟩

theorem IRow.congr {w : World} {ao : Option Addr} {n : Nat} {e f : Nat → Int} (h : IRow w ao n e) (he : ∀ i, i < n → e i = f i) : IRow w ao n f := fun hn => by
  obtain ⟨b, o, h1, h2⟩ := h hn
  exact ⟨b, o, h1, fun i hi => by rw [← he i hi]; exact h2 i hi⟩

end Go.Proofs.YtodihpaabkplhaaDoor
