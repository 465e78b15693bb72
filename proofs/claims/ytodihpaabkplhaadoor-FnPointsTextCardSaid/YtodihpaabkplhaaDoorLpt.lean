/- The law FnPlaceText. -/
import Derived.Test.YtodihpaabkplhaaDoorDco
namespace Go.Proofs.YtodihpaabkplhaaDoor
open Go.RowKit

theorem xDigits_any (d : Int) (w : World) (d0 : -9223372036854775808 ≤ d) (d1 : d ≤ 9223372036854775807) :
    Calls Tryd.prog 8 #[.int .i64 d] w fun e w' => e = .returned (.bool (decide (-1 ≤ d) && decide (d ≤ 20))) ∧ w = w' := by
  by_cases h : -1 ≤ d
  · go_enter Tryd.func8, Tryd.ntmps8
    go_wp2
    go_ret
    exact ⟨by simp [h], rfl⟩
  · go_enter Tryd.func8, Tryd.ntmps8
    go_wp2
    go_ret
    exact ⟨retb (by rw [decide_eq_false (by omega)]; rfl), rfl⟩

theorem str_append (a b : List UInt8) : str a ++ str b = str (a ++ b) := by
  unfold str
  apply ByteArray.ext
  simp

set_option maxRecDepth 100000 in
set_option maxHeartbeats 1600000 in
theorem fnPlaceText_main (cb co blk off n cap : Nat) (xs : Nat → Nat) (d : Int) (w : World) (T : Tabs cb co w) (hr : FRow w blk off n xs) (n0 : 1 ≤ n) (n1 : n ≤ 9) (p0 : -1 ≤ d) (p1 : d ≤ 20) :
    Calls Tryd.prog 3 #[.slice (some ⟨blk, off, none⟩) n cap, .int .i64 d] w fun e w' => e = .returned (.bool true) ∧ Below w.heap.size w w' := by
  have hxd := xDigits_any d w (by omega) (by omega)
  have hbt : (decide (-1 ≤ d) && decide (d ≤ 20)) = true := by simp [p0, p1]
  rw [hbt] at hxd
  clear hbt
  have HT := Lib.hid T
  have HR := Lib.hid hr
  clear T hr
  go_enter Tryd.func3, Tryd.ntmps3
  go_wp2_with fail
  refine hxd.mono ?_
  rintro en w1 ⟨rfl, rfl⟩
  clear hxd
  go_wp2_with fail
  go_loopg [5, 28] n (fun m s v wr => ∃ i : Nat, i + m = n ∧ v = .int .i64 i ∧ s = .string (str (coordB xs d i)) ∧ Below w.heap.size w wr)
  case atStart => exact ⟨0, by omega, rfl, rfl, Below.refl _ _⟩
  case round =>
    obtain ⟨i, hi, rfl, rfl, hB⟩ := hrel
    cases gk with
    | zero =>
      have hin : i = n := by omega
      subst hin
      obtain ⟨L, hL⟩ : ∃ L, str (coordB xs d i) = L := ⟨_, rfl⟩
      have hp := placeText_any cb co blk off i cap xs d wr (HT.out.below hB) (HR.out.below hB) p0 p1 (by omega)
      rw [hL] at hp ⊢
      clear hL
      go_wp2_with fail
      refine hp.mono ?_
      rintro en w2 ⟨rfl, hB2⟩
      clear hp
      go_wp2
      go_ret
      exact ⟨retb (by simp), hB.trans (hB2.mono hB.size)⟩
    | succ m =>
      have cx := HR.out.cell hB (show i < n by omega)
      have hx64 := (HR.out i (by omega)).2
      obtain ⟨x, hx⟩ : ∃ x, xs i = x := ⟨_, rfl⟩
      rw [hx] at cx hx64
      have hc1 : coordB xs d (i + 1) = coordB xs d i ++ (if i = 0 then [] else [32]) ++ numB x d := by rw [coordB, hx]
      have HC := Lib.hid hc1
      have hwn := writeNumber_any cb co x d wr (HT.out.below hB) hx64 p0 p1
      rw [← numB_str] at hwn
      have hi9 : (i : Int) < 9 := by omega
      have hin : (i : Int) < n := by omega
      have hl1 := coordB_length xs d p0 p1 i
      have hl2 := numB_length x d p0 p1
      have hl3 : i * 20004 ≤ 180036 := by omega
      clear hc1 hx
      by_cases h0 : i = 0
      · subst h0
        have hst : str (coordB xs d 0) ++ str (numB x d) = str (coordB xs d 1) := by rw [str_append, HC.out]; rfl
        have hz : ¬ 9223372036854775807 < (str (coordB xs d 0)).size + (str (numB x d)).size := by rw [str_size, str_size]; omega
        obtain ⟨A, hA⟩ : ∃ A, str (coordB xs d 0) = A := ⟨_, rfl⟩
        obtain ⟨N, hN⟩ : ∃ N, str (numB x d) = N := ⟨_, rfl⟩
        obtain ⟨R, hR⟩ : ∃ R, str (coordB xs d 1) = R := ⟨_, rfl⟩
        rw [hA, hN, hR] at hst
        rw [hA, hN] at hz
        rw [hN] at hwn
        rw [hA]
        have HRR := Lib.hid hR
        rw [Nat.add_zero] at cx
        clear hl1 hl2 hl3 hA hN hR
        have z0 : ((0 : Nat) : Int) = 0 := rfl
        rw [z0]
        clear z0
        go_wp2_with fail
        refine hwn.mono ?_
        rintro en w2 ⟨rfl, hB2⟩
        clear hwn
        go_wp2
        go_roundg m
        case measure => omega
        case rel => exact ⟨1, by omega, rfl, by rw [HRR.out], hB.trans (hB2.mono hB.size)⟩
      · have h1 : (0 : Int) < (i : Int) := by omega
        have hst : str (coordB xs d i) ++ str [32] ++ str (numB x d) = str (coordB xs d (i + 1)) := by rw [str_append, str_append, HC.out, if_neg h0]
        have hz1 : ¬ 9223372036854775807 < (str (coordB xs d i)).size + (str [32]).size := by rw [str_size, str_size]; simp; omega
        have hz2 : ¬ 9223372036854775807 < (str (coordB xs d i) ++ str [32]).size + (str (numB x d)).size := by rw [str_append, str_size, str_size, List.length_append]; simp; omega
        change str (coordB xs d i) ++ (⟨#[32]⟩ : ByteArray) ++ _ = _ at hst
        change ¬ 9223372036854775807 < (str (coordB xs d i)).size + 1 at hz1
        obtain ⟨A, hA⟩ : ∃ A, str (coordB xs d i) = A := ⟨_, rfl⟩
        obtain ⟨N, hN⟩ : ∃ N, str (numB x d) = N := ⟨_, rfl⟩
        obtain ⟨R, hR⟩ : ∃ R, str (coordB xs d (i + 1)) = R := ⟨_, rfl⟩
        obtain ⟨A2, hA2⟩ : ∃ A2, A ++ (⟨#[32]⟩ : ByteArray) = A2 := ⟨_, rfl⟩
        change ¬ 9223372036854775807 < (str (coordB xs d i) ++ (⟨#[32]⟩ : ByteArray)).size + _ at hz2
        rw [hA, hN, hR, hA2] at hst
        rw [hA] at hz1
        rw [hA, hN, hA2] at hz2
        rw [hN] at hwn
        rw [hA]
        have HRR := Lib.hid hR
        clear hl1 hl2 hl3 hA hN hR
        go_wp2_with fail
        refine hwn.mono ?_
        rintro en w2 ⟨rfl, hB2⟩
        clear hwn
        go_wp2
        go_roundg m
        case measure => omega
        case rel => exact ⟨i + 1, by omega, rfl, by rw [HRR.out], hB.trans (hB2.mono hB.size)⟩

set_option maxRecDepth 100000 in
set_option maxHeartbeats 1600000 in
theorem fnPlaceText_idle (ao : Option Addr) (n cap : Nat) (d : Int) (w : World) (d0 : -9223372036854775808 ≤ d) (d1 : d ≤ 9223372036854775807) (hn : n ≤ 9223372036854775807) (hno : n < 1 ∨ 9 < n ∨ d < -1 ∨ 20 < d) :
    Calls Tryd.prog 3 #[.slice ao n cap, .int .i64 d] w fun e w' => e = .returned (.bool true) ∧ w = w' := by
  by_cases hb : 2147483647 < n
  · have hb' : (2147483647 : Int) < (n : Int) := by omega
    clear hn hno hb
    go_enter Tryd.func3, Tryd.ntmps3
    go_wp2_with fail
    go_ret
    exact ⟨rfl, rfl⟩
  · have hb' : ¬ (2147483647 : Int) < (n : Int) := by omega
    by_cases h1 : n < 1 ∨ 9 < n
    · by_cases h0 : n < 1
      · have hz : (n : Int) < 1 := by omega
        clear hn hno h1 h0 hb
        go_enter Tryd.func3, Tryd.ntmps3
        go_wp2_with fail
        go_ret
        exact ⟨rfl, rfl⟩
      · have hz : ¬ (n : Int) < 1 := by omega
        have h9 : (9 : Int) < (n : Int) := by omega
        clear hn hno h1 h0 hb
        go_enter Tryd.func3, Tryd.ntmps3
        go_wp2_with fail
        go_ret
        exact ⟨rfl, rfl⟩
    · have h2 : ¬ (n : Int) < 1 := by omega
      have h3 : ¬ (9 : Int) < (n : Int) := by omega
      have hxd := xDigits_any d w d0 d1
      have hbt : (decide (-1 ≤ d) && decide (d ≤ 20)) = false := by
        rcases hno with h | h | h | h
        · omega
        · omega
        · rw [decide_eq_false (by omega)]; rfl
        · rw [decide_eq_false (p := d ≤ 20) (by omega), Bool.and_false]
      rw [hbt] at hxd
      clear hbt hno h1 hb hn
      go_enter Tryd.func3, Tryd.ntmps3
      go_wp2_with fail
      refine hxd.mono ?_
      rintro en w1 ⟨rfl, rfl⟩
      clear hxd
      go_wp2
      go_ret
      exact ⟨rfl, rfl⟩
end Go.Proofs.YtodihpaabkplhaaDoor
