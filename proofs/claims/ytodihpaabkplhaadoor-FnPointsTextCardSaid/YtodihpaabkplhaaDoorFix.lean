/- fixedWidthFloat: the digits of a number at a fixed width. -/
import Derived.Test.YtodihpaabkplhaaDoorScl
import Derived.Test.YtodihpaabkplhaaDoorTab
namespace Go.Proofs.YtodihpaabkplhaaDoor
open Go.RowKit

/-- prescale's shift. -/
def sclS (e p : Int) : Int := -(e + p * 108853 / 32768 + 3)
/-- uscale at the table's row for p. -/
def scaled (m e p : Int) : Int := uScale m (pmHi (p + 348).toNat) (pmLo (p + 348).toNat) (sclS e p)
theorem u64_scaled (m e p : Int) : U64 (scaled m e p) := u64_uScale _ _ _ _
def divs : Nat → Int → Int
  | 0, u => u
  | k + 1, u => uDiv10 (divs k u)
theorem u64_divs {u : Int} (h : U64 u) : ∀ k, U64 (divs k u)
  | 0 => h
  | _ + 1 => u64_uDiv10 _
def fixP (e n : Int) : Int := n - 1 - (e + 63) * 78913 / 262144
/-- Behind the first correction: the unrounded number and its place. -/
def fixUP (m e n : Int) : Int × Int := if uMin ((10 ^ n.toNat : Nat) : Int) ≤ scaled m e (fixP e n) then (uDiv10 (scaled m e (fixP e n)), fixP e n - 1) else (scaled m e (fixP e n), fixP e n)
def fixD (m e n prec : Int) : Int := uRound (divs ((fixUP m e n).2 - prec).toNat (fixUP m e n).1)
def fixE (m e n prec : Int) : Int := -(if prec < (fixUP m e n).2 then prec else (fixUP m e n).2)
theorem u64_fixD (m e n prec : Int) : U64 (fixD m e n prec) := u64_uRound _

theorem heap_new (w : World) (o : Obj) : (w.alloc o).heap[w.heap.size]? = some o := by
  show (w.heap.push o)[w.heap.size]? = _
  simp

set_option maxHeartbeats 2000000 in
theorem fixed_any (cb co : Nat) (m e n prec : Int) (w : World) (T : Tabs cb co w) (hm : U64 m) (e0 : -1137 ≤ e) (e1 : e ≤ 960) (n0 : 1 ≤ n) (n1 : n ≤ 18) (p0 : 0 ≤ prec) (p1 : prec ≤ 20) :
    Calls Tryd.prog 75 #[.int .u64 m, .int .i64 e, .int .i64 n, .int .i64 prec, .int .u8 102] w fun en w' => en = .returned (.tuple #[.int .u64 (fixD m e n prec), .int .i64 (fixE m e n prec)]) ∧ Below w.heap.size w w' := by
  obtain ⟨k, rfl⟩ : ∃ k : Nat, n = k := ⟨n.toNat, by omega⟩
  obtain ⟨l, hl⟩ : ∃ l, (e + 63) * 78913 / 262144 = l := ⟨_, rfl⟩
  obtain ⟨P, hP⟩ : ∃ P, (k : Int) - 1 - l = P := ⟨_, rfl⟩
  have l0 : -324 ≤ l := by omega
  have l1 : l ≤ 307 := by omega
  have P0 : -307 ≤ P := by omega
  have P1 : P ≤ 341 := by omega
  have hPP : fixP e k = P := by unfold fixP; omega
  have HP := Lib.hid hPP
  clear hPP
  obtain ⟨i, hi⟩ : ∃ i : Nat, P + 348 = i := ⟨(P + 348).toNat, by omega⟩
  have i1 : i < 696 := by omega
  obtain ⟨W, hW⟩ : ∃ W, w.alloc (.cells #[.int .u64 0, .int .u64 0, .int .i64 0] 123) = W := ⟨_, rfl⟩
  have hB : Below w.heap.size w W := hW ▸ (Below.refl _ _).alloc (Nat.le_refl _) _
  have hblk : W.heap[w.heap.size]? = some (.cells #[.int .u64 0, .int .u64 0, .int .i64 0] 123 (0, 0)) := hW ▸ heap_new _ _
  have TW := T.below hB
  have th := TW.hi i i1
  have tl := TW.lo i i1
  have HI := Lib.hid hi
  clear hi
  go_enter Tryd.func75, Tryd.ntmps75
  go_wp2_with (first
    | (go_at_call 74; refine (log10Pow2_any _ _ (by omega) (by omega)).mono ?_; rintro en w' ⟨rfl, rfl⟩)
    | (go_at_call 87; refine (log2Pow10_any _ _ (by omega) (by omega)).mono ?_; rintro en w' ⟨rfl, rfl⟩))
  refine (prescale_any _ i e P _ (pmHi i) (pmLo i) _ HI.out i1 (by omega) (by omega) (by omega) (by omega) hblk th tl).mono ?_
  rintro en w1 ⟨rfl, hb1, hB1⟩
  have c0 : w1.cell? ⟨w.heap.size, 0, none⟩ = some (.int .u64 (pmHi i)) := by rw [Lib.cell_of_heap hb1]; rfl
  have c1 : w1.cell? ⟨w.heap.size, 1, none⟩ = some (.int .u64 (pmLo i)) := by rw [Lib.cell_of_heap hb1]; rfl
  have c2 : w1.cell? ⟨w.heap.size, 2, none⟩ = some (.int .i64 (-(e + P * 108853 / 32768 + 3))) := by rw [Lib.cell_of_heap hb1]; rfl
  go_wp2_with fail
  refine (uscale_any _ _ _ _ hm (u64_pmHi i i1) (u64_pmLo i i1) _ _ c0 c1 c2).mono ?_
  rintro en w2 ⟨rfl, nq, hw2⟩
  have hB2 : Below w.heap.size w w2 := hw2 ▸ Below.drewN (hB.trans hB1) nq
  clear hw2 hB1 c0 c1 c2 hb1 hblk th tl hW TW
  have hS : scaled m e P = uScale m (pmHi i) (pmLo i) (-(e + P * 108853 / 32768 + 3)) := by
    unfold scaled sclS
    rw [HI.out, Int.toNat_natCast]
  rw [← hS]
  have hU : U64 (scaled m e P) := u64_scaled _ _ _
  have HUP : Hid (fixUP m e k = if uMin ((10 ^ k : Nat) : Int) ≤ scaled m e P then (uDiv10 (scaled m e P), P - 1) else (scaled m e P, P)) := by
    show _ = _
    unfold fixUP
    rw [HP.out, Int.toNat_natCast]
  obtain ⟨U, hUU⟩ : ∃ U, scaled m e P = U := ⟨_, rfl⟩
  rw [hUU] at hS hU ⊢
  clear hS
  rw [hUU] at HUP
  clear hUU
  have T2 := T.below hB2
  have hc := T2.p10 k (by omega)
  obtain ⟨Z, hZ⟩ : ∃ Z : Int, ((10 ^ k : Nat) : Int) = Z := ⟨_, rfl⟩
  rw [hZ] at hc HUP
  clear hZ
  go_wp2_with fail
  refine (unmin_any _ _).mono ?_
  rintro en w3 ⟨rfl, rfl⟩
  by_cases hge : uMin Z ≤ U
  · have HV : ∃ U1, uDiv10 U = U1 := ⟨_, rfl⟩
    obtain ⟨U1, hU1⟩ := HV
    have h64 : U64 U1 := hU1 ▸ u64_uDiv10 _
    obtain ⟨P1', hP1'⟩ : ∃ x, P - 1 = x := ⟨_, rfl⟩
    have HUP1 : Hid (fixUP m e k = (U1, P1')) := by
      show _ = _
      rw [HUP.out, if_pos hge, hU1, hP1']
    have hb0 : P1' ≤ 341 := by omega
    have hb1 : -308 ≤ P1' := by omega
    clear HUP hB
    go_wp2_with fail
    refine (div10_any _ hU _).mono ?_
    rintro en w3 ⟨rfl, nq3, hw3⟩
    have hB3 : Below w.heap.size w w3 := hw3 ▸ Below.drewN hB2 nq3
    clear hw3 hB2 hge T2 hc hP hl T
    go_wp2_with fail
    go_loopw [11, 13] (fun vp vu wr => ∃ j : Nat, j ≤ (P1' - prec).toNat ∧ vp = .int .i64 (P1' - j) ∧ vu = .int .u64 (divs j U1) ∧ Below w.heap.size w wr) (fun vp _ _ => (intOf vp - prec).toNat)
    case atStart => exact ⟨0, by omega, by simp, rfl, hB3⟩
    case round =>
      obtain ⟨j, hj, rfl, rfl, hBr⟩ := hrel
      have hdj := u64_divs h64 j
      by_cases hlt : prec < P1' - j
      · go_wp2_with fail
        refine (div10_any _ hdj _).mono ?_
        rintro en w4 ⟨rfl, nq4, hw4⟩
        have hB4 : Below w.heap.size w w4 := hw4 ▸ Below.drewN hBr nq4
        clear hw4 hBr
        go_wp2_with fail
        go_roundw
        case rel => exact ⟨j + 1, by omega, by first | rfl | (congr 1; omega), rfl, hB4⟩
        case measure => simp [intOf]; omega
      · have hfin : fixD m e k prec = uRound (divs j U1) ∧ fixE m e k prec = -(P1' - (j : Int)) := by
          unfold fixD fixE
          rw [HUP1.out]
          have hj' : (P1' - prec).toNat = j := by omega
          refine ⟨by rw [hj'], ?_⟩
          simp only
          split <;> omega
        have HF := Lib.hid hfin
        clear hfin
        go_wp2_with fail
        refine (round_any _ _).mono ?_
        rintro en w4 ⟨rfl, rfl⟩
        go_wp2_with fail
        go_ret2
        exact ⟨ret2 HF.out.1.symm HF.out.2.symm, hBr⟩
  · have h64 := hU
    have HUP1 : Hid (fixUP m e k = (U, P)) := by
      show _ = _
      rw [HUP.out, if_neg hge]
    clear HUP hB
    go_wp2_with fail
    clear hge T2 hc hP hl T
    go_loopw [11, 13] (fun vp vu wr => ∃ j : Nat, j ≤ (P - prec).toNat ∧ vp = .int .i64 (P - j) ∧ vu = .int .u64 (divs j U) ∧ Below w.heap.size w wr) (fun vp _ _ => (intOf vp - prec).toNat)
    case atStart => exact ⟨0, by omega, by simp, rfl, hB2⟩
    case round =>
      obtain ⟨j, hj, rfl, rfl, hBr⟩ := hrel
      have hdj := u64_divs h64 j
      by_cases hlt : prec < P - j
      · go_wp2_with fail
        refine (div10_any _ hdj _).mono ?_
        rintro en w4 ⟨rfl, nq4, hw4⟩
        have hB4 : Below w.heap.size w w4 := hw4 ▸ Below.drewN hBr nq4
        clear hw4 hBr
        go_wp2_with fail
        go_roundw
        case rel => exact ⟨j + 1, by omega, by first | rfl | (congr 1; omega), rfl, hB4⟩
        case measure => simp [intOf]; omega
      · have hfin : fixD m e k prec = uRound (divs j U) ∧ fixE m e k prec = -(P - (j : Int)) := by
          unfold fixD fixE
          rw [HUP1.out]
          have hj' : (P - prec).toNat = j := by omega
          refine ⟨by rw [hj'], ?_⟩
          simp only
          split <;> omega
        have HF := Lib.hid hfin
        clear hfin
        go_wp2_with fail
        refine (round_any _ _).mono ?_
        rintro en w4 ⟨rfl, rfl⟩
        go_wp2_with fail
        go_ret2
        exact ⟨ret2 HF.out.1.symm HF.out.2.symm, hBr⟩
end Go.Proofs.YtodihpaabkplhaaDoor
