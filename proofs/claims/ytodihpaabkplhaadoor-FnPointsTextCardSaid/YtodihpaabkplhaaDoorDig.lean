/- numDigits and setDigits: how many digits a number has; its digits laid into a row of zeros, the zeros at the end counted off. -/
import Derived.Test.YtodihpaabkplhaaDoorSho
import Derived.Test.YtodihpaabkplhaaDoorShelf
namespace Go.Proofs.YtodihpaabkplhaaDoor
open Go.RowKit

/-- How many digits a number has; none for 0. -/
def nDig (u : Nat) : Nat := if u = 0 then 0 else Lib.nDigits u
theorem nDig_le (u : Nat) (h : u < 18446744073709551616) : nDig u ≤ 20 := by
  unfold nDig
  split
  · omega
  · have h1 : 1 ≤ u := by omega
    have := Lib.numDigits_eq u h1 h
    split at this <;> omega
theorem nDig_lt (u : Nat) : u < 10 ^ nDig u := by
  unfold nDig
  split
  · subst_vars; simp
  · exact Lib.lt_pow_nDigits u

theorem bitLen_le64 (u : Nat) (h : u < 18446744073709551616) : Lib.bitLen u ≤ 64 := Lib.bitLen_le u 64 (Nat.le_refl _) h
theorem len64_any (x : Int) (w : World) (hx : U64 x) :
    Calls Tryd.prog 70 #[.int .u64 x] w fun e w' => e = .returned (.int .i64 (Lib.bitLen x.toNat)) ∧ w = w' :=
  (Any.bits_Len64 lays129 x w hx.1 (by have := hx.2; omega)).mono fun _ _ h => ⟨h.1, h.2.symm⟩

set_option maxHeartbeats 1000000 in
theorem numDigits_any (cb co : Nat) (u : Nat) (hu : u < 18446744073709551616) (w : World) (T : Tabs cb co w) :
    Calls Tryd.prog 73 #[.int .u64 u] w fun e w' => e = .returned (.int .i64 (nDig u)) ∧ w = w' := by
  have hL := bitLen_le64 u hu
  obtain ⟨B, hB⟩ : ∃ B, Lib.bitLen u = B := ⟨_, rfl⟩
  obtain ⟨q, hq⟩ : ∃ q : Nat, Lib.l10 B = q := ⟨_, rfl⟩
  have hql : (B : Int) * 78913 / 262144 = q := by rw [← hq]; unfold Lib.l10; omega
  have hto : ((u : Int)).toNat = u := by omega
  have hfin : (q : Int) + b2i (decide (((10 ^ q : Nat) : Int) ≤ (u : Int))) = (nDig u : Int) ∧ q ≤ 19 := by
    by_cases h0 : u = 0
    · subst h0
      have h1 : Lib.bitLen 0 = 0 := by decide +kernel
      rw [h1] at hB
      subst hB
      have h2 : Lib.l10 0 = 0 := by decide +kernel
      rw [h2] at hq
      subst hq
      simp [nDig, b2i]
    · have h := Lib.numDigits_eq u (by omega) hu
      rw [hB, hq] at h
      refine ⟨?_, h.2⟩
      have hn : nDig u = Lib.nDigits u := by unfold nDig; rw [if_neg h0]
      rw [hn, ← h.1]
      by_cases hc : 10 ^ q ≤ u
      · have hd : decide (((10 ^ q : Nat) : Int) ≤ (u : Int)) = true := decide_eq_true (by omega)
        rw [if_pos hc, hd]; simp [b2i]
      · have hd : decide (((10 ^ q : Nat) : Int) ≤ (u : Int)) = false := decide_eq_false (by omega)
        rw [if_neg hc, hd]; simp [b2i]
  have hq19 : q ≤ 19 := hfin.2
  have hc := T.p10 q (by omega)
  obtain ⟨Z, hZ⟩ : ∃ Z : Int, ((10 ^ q : Nat) : Int) = Z := ⟨_, rfl⟩
  rw [hZ] at hc hfin
  have HF := Lib.hid hfin.1
  rw [hB] at hL
  have bb := b2i_le (decide (Z ≤ (u : Int)))
  clear hfin hZ T hq
  go_enter Tryd.func73, Tryd.ntmps73
  go_wp2_with (first
    | (go_at_call 70; refine (len64_any _ _ ⟨by omega, by omega⟩).mono ?_; rintro e w' ⟨rfl, rfl⟩)
    | (go_at_call 74; refine (log10Pow2_any _ _ (by omega) (by omega)).mono ?_; rintro e w' ⟨rfl, rfl⟩)
    | (go_at_call 94; refine (bool2_int_any _ _).mono ?_; rintro e w' ⟨rfl, rfl⟩))
  go_ret
  exact ⟨ret1 HF.out, rfl⟩
end Go.Proofs.YtodihpaabkplhaaDoor
