/- atof64exact: it ends, and what it gives hangs on its arguments alone. -/
import Derived.Test.YtodihpaabkplhaaGreatDoorPtb
import Derived.WalkSpells
import Derived.WalkLawsBesides
import Derived.Lib.Hide
namespace Go.Proofs.YtodihpaabkplhaaGreatDoor
open Go.RowKit

def neF (neg : Bool) (f : Nat) : Nat := if neg then Op.negFloat .f64 f else f
theorem run_neg (f : Nat) (W : World) : Sem.run Tryz.prog (Op.unary UnOp.neg (.float .f64 f)) W = .ok (.float .f64 (neF true f)) W := rfl
theorem neF_nn {neg : Bool} {f : Nat} (h : NN f) : NN (neF neg f) := by
  unfold neF
  split
  · exact neg_nn h
  · exact h
theorem neF_lt {neg : Bool} {f : Nat} (h : f < 18446744073709551616) : neF neg f < 18446744073709551616 := by
  unfold neF
  split
  · exact neg_lt64 h
  · exact h
/-- 1e15 and -1e15, held against a number. -/
def big1 (f : Nat) : Bool := Ieee.double.order f 4831355200913801216 == some .gt
def big2 (f : Nat) : Bool := Ieee.double.order f 14054727237768577024 == some .lt

set_option maxHeartbeats 2000000 in
theorem exact_pos (neg : Bool) (m : Nat) (exp : Int) (hm : m < 18446744073709551616) (h52 : m / 4503599627370496 = 0) (f1 : Nat) (hf1 : neF neg (floatOfInt .f64 (m : Int)) = f1) (n1 : NN f1) (l1 : f1 < 18446744073709551616) (hp : 0 < exp) (hp2 : exp ≤ 37) :
    ∃ (x : Nat) (ok : Bool), x < 18446744073709551616 ∧ NN x ∧ ∀ (sp : Spots) (w : World) (_ : Tab2 sp w),
    Calls Tryz.prog 62 #[.int .u64 m, .int .i64 exp, .bool neg] w fun e w' => e = .returned (.tuple #[.float .f64 x, .bool ok]) ∧ w' = w := by
  have hb : ((m : Int) / 4503599627370496 != 0) = false := by rw [bne_eq_false_iff_eq]; omega
  have hz : (exp == 0) = false := by rw [beq_eq_false_iff_ne]; omega
  obtain ⟨f0, hf0⟩ : ∃ f, floatOfInt .f64 (m : Int) = f := ⟨_, rfl⟩
  rw [hf0] at hf1
  by_cases h22 : 22 < exp
  · obtain ⟨i, hi⟩ : ∃ i : Nat, exp = (i : Int) + 22 := ⟨(exp - 22).toNat, by omega⟩
    have hi23 : i < 23 := by omega
    obtain ⟨f2, hf2, n2⟩ := mul_ten n1 hi23
    have l2 := floatBits_lt hf2
    obtain ⟨f3, hf3, n3⟩ := mul_ten n2 (i := 22) (by omega)
    have l3 := floatBits_lt hf3
    obtain ⟨g1, hg1⟩ : ∃ g, big1 f2 = g := ⟨_, rfl⟩
    obtain ⟨g2, hg2⟩ : ∃ g, big2 f2 = g := ⟨_, rfl⟩
    have hx : ∃ (x : Nat) (ok : Bool), x < 18446744073709551616 ∧ NN x ∧ ((g1 = true ∨ g2 = true) ∧ x = f2 ∧ ok = false ∨ (g1 = false ∧ g2 = false) ∧ x = f3 ∧ ok = true) := by
      cases g1
      · cases g2
        · exact ⟨f3, true, l3, n3, Or.inr ⟨⟨rfl, rfl⟩, rfl, rfl⟩⟩
        · exact ⟨f2, false, l2, n2, Or.inl ⟨Or.inr rfl, rfl, rfl⟩⟩
      · exact ⟨f2, false, l2, n2, Or.inl ⟨Or.inl rfl, rfl, rfl⟩⟩
    obtain ⟨x, ok, lx, nx, hc⟩ := hx
    refine ⟨x, ok, lx, nx, fun sp w T => ?_⟩
    have i0 := T.inf0
    have ct := T.ten
    have ci := T.tenc i hi23
    have c22 := T.tenc 22 (by omega)
    have r1 := fun W => run_float_arith (P := Tryz.prog) W BinOp.mul 30 .f64 _ _ _ hf2
    have r2 := fun W => run_float_arith (P := Tryz.prog) W BinOp.mul 30 .f64 _ _ _ hf3
    have r3 : (FloatKind.f64.format.order f2 4831355200913801216 == some Ordering.gt) = g1 := hg1
    have r4 : (FloatKind.f64.format.order f2 14054727237768577024 == some Ordering.lt) = g2 := hg2
    have r5 := run_neg f0
    subst hi
    have hm0 : (0 : Int) ≤ (m : Int) := by omega
    have hi0 : (22 : Int) < (i : Int) + 22 := by omega
    have hic : (i : Int) < 23 := by omega
    obtain ⟨y, hy⟩ : ∃ y, tenF i = y := ⟨_, rfl⟩
    obtain ⟨z, hzz⟩ : ∃ z, tenF 22 = z := ⟨_, rfl⟩
    rw [hy] at ci r1
    rw [hzz] at c22 r2
    have HF := Lib.hid hf1
    clear T n1 n2 n3 nx l1 l2 l3 lx hf2 hf3 hg1 hg2 hy hzz hf1
    cases neg
    · obtain rfl : f0 = f1 := HF.out
      clear HF r5
      cases g1 <;> cases g2
      all_goals (
        rcases hc with ⟨hc, rfl, rfl⟩ | ⟨hc, rfl, rfl⟩
        all_goals (first
          | exact absurd hc (by decide)
          | (clear hc
             go_enter Tryz.func62, Tryz.ntmps62
             go_wp2_with fail
             go_ret2
             exact ⟨rfl, rfl⟩)))
    · rw [HF.out] at r5
      clear HF
      cases g1 <;> cases g2
      all_goals (
        rcases hc with ⟨hc, rfl, rfl⟩ | ⟨hc, rfl, rfl⟩
        all_goals (first
          | exact absurd hc (by decide)
          | (clear hc
             go_enter Tryz.func62, Tryz.ntmps62
             go_wp2_with fail
             go_ret2
             exact ⟨rfl, rfl⟩)))
  · obtain ⟨i, hi⟩ : ∃ i : Nat, exp = (i : Int) := ⟨exp.toNat, by omega⟩
    have hi23 : i < 23 := by omega
    obtain ⟨f3, hf3, n3⟩ := mul_ten n1 hi23
    have l3 := floatBits_lt hf3
    obtain ⟨g1, hg1⟩ : ∃ g, big1 f1 = g := ⟨_, rfl⟩
    obtain ⟨g2, hg2⟩ : ∃ g, big2 f1 = g := ⟨_, rfl⟩
    have hx : ∃ (x : Nat) (ok : Bool), x < 18446744073709551616 ∧ NN x ∧ ((g1 = true ∨ g2 = true) ∧ x = f1 ∧ ok = false ∨ (g1 = false ∧ g2 = false) ∧ x = f3 ∧ ok = true) := by
      cases g1
      · cases g2
        · exact ⟨f3, true, l3, n3, Or.inr ⟨⟨rfl, rfl⟩, rfl, rfl⟩⟩
        · exact ⟨f1, false, l1, n1, Or.inl ⟨Or.inr rfl, rfl, rfl⟩⟩
      · exact ⟨f1, false, l1, n1, Or.inl ⟨Or.inl rfl, rfl, rfl⟩⟩
    obtain ⟨x, ok, lx, nx, hc⟩ := hx
    refine ⟨x, ok, lx, nx, fun sp w T => ?_⟩
    have i0 := T.inf0
    have ct := T.ten
    have ci := T.tenc i hi23
    have r1 := fun W => run_float_arith (P := Tryz.prog) W BinOp.mul 30 .f64 _ _ _ hf3
    have r3 : (FloatKind.f64.format.order f1 4831355200913801216 == some Ordering.gt) = g1 := hg1
    have r4 : (FloatKind.f64.format.order f1 14054727237768577024 == some Ordering.lt) = g2 := hg2
    have r5 := run_neg f0
    subst hi
    have hm0 : (0 : Int) ≤ (m : Int) := by omega
    have hi0 : ¬ (22 : Int) < (i : Int) := by omega
    have hic : (i : Int) < 23 := by omega
    obtain ⟨y, hy⟩ : ∃ y, tenF i = y := ⟨_, rfl⟩
    rw [hy] at ci r1
    have HF := Lib.hid hf1
    clear T n1 n3 nx l1 l3 lx hf3 hg1 hg2 hy hf1
    cases neg
    · obtain rfl : f0 = f1 := HF.out
      clear HF r5
      cases g1 <;> cases g2
      all_goals (
        rcases hc with ⟨hc, rfl, rfl⟩ | ⟨hc, rfl, rfl⟩
        all_goals (first
          | exact absurd hc (by decide)
          | (clear hc
             go_enter Tryz.func62, Tryz.ntmps62
             go_wp2_with fail
             go_ret2
             exact ⟨rfl, rfl⟩)))
    · rw [HF.out] at r5
      clear HF
      cases g1 <;> cases g2
      all_goals (
        rcases hc with ⟨hc, rfl, rfl⟩ | ⟨hc, rfl, rfl⟩
        all_goals (first
          | exact absurd hc (by decide)
          | (clear hc
             go_enter Tryz.func62, Tryz.ntmps62
             go_wp2_with fail
             go_ret2
             exact ⟨rfl, rfl⟩)))

set_option maxHeartbeats 2000000 in
theorem exact_any (m : Nat) (exp : Int) (neg : Bool) (hm : m < 18446744073709551616) (e0 : -200000 ≤ exp) (e1 : exp ≤ 200000) : ∃ (x : Nat) (ok : Bool), x < 18446744073709551616 ∧ NN x ∧ ∀ (sp : Spots) (w : World) (_ : Tab2 sp w),
    Calls Tryz.prog 62 #[.int .u64 m, .int .i64 exp, .bool neg] w fun e w' => e = .returned (.tuple #[.float .f64 x, .bool ok]) ∧ w' = w := by
  have nn0 : NN 0 := by unfold NN; decide
  by_cases h52 : m / 4503599627370496 = 0
  rotate_left
  · refine ⟨0, false, by decide, nn0, fun sp w T => ?_⟩
    have i0 := T.inf0
    have hb : ((m : Int) / 4503599627370496 != 0) = true := by rw [bne_iff_ne]; omega
    clear T
    go_enter Tryz.func62, Tryz.ntmps62
    go_wp2_with fail
    go_ret2
    exact ⟨rfl, rfl⟩
  have hb : ((m : Int) / 4503599627370496 != 0) = false := by rw [bne_eq_false_iff_eq]; omega
  have n1 : NN (neF neg (floatOfInt .f64 (m : Int))) := neF_nn (nearest_nn _)
  have l1 : neF neg (floatOfInt .f64 (m : Int)) < 18446744073709551616 := neF_lt (nearest_lt64 _)
  by_cases hp : 0 < exp ∧ exp ≤ 37
  · exact exact_pos neg m exp hm h52 _ rfl n1 l1 hp.1 hp.2
  obtain ⟨f0, hf0⟩ : ∃ f, floatOfInt .f64 (m : Int) = f := ⟨_, rfl⟩
  rw [hf0] at n1 l1
  obtain ⟨f1, hf1⟩ : ∃ f, neF neg f0 = f := ⟨_, rfl⟩
  rw [hf1] at n1 l1
  have HF := Lib.hid hf1
  clear hf1
  have hm0 : (0 : Int) ≤ (m : Int) := by omega
  have r5 := run_neg f0
  by_cases hz : exp = 0
  · refine ⟨f1, true, l1, n1, fun sp w T => ?_⟩
    have i0 := T.inf0
    clear T n1 l1 hp
    subst hz
    cases neg
    · obtain rfl : f0 = f1 := HF.out
      clear HF r5
      go_enter Tryz.func62, Tryz.ntmps62
      go_wp2_with fail
      go_ret2
      exact ⟨rfl, rfl⟩
    · rw [HF.out] at r5
      clear HF
      go_enter Tryz.func62, Tryz.ntmps62
      go_wp2_with fail
      go_ret2
      exact ⟨rfl, rfl⟩
  have hzb : (exp == 0) = false := by rw [beq_eq_false_iff_ne]; exact hz
  by_cases hn : -22 ≤ exp ∧ exp < 0
  · obtain ⟨i, hi⟩ : ∃ i : Nat, exp = -(i : Int) := ⟨(-exp).toNat, by omega⟩
    have hi23 : i < 23 := by omega
    obtain ⟨f3, hf3, n3⟩ := div_ten n1 hi23
    have l3 := floatBits_lt hf3
    refine ⟨f3, true, l3, n3, fun sp w T => ?_⟩
    have i0 := T.inf0
    have ct := T.ten
    have ci := T.tenc i hi23
    have r1 := fun W => run_float_arith (P := Tryz.prog) W BinOp.quo 30 .f64 _ _ _ hf3
    subst hi
    have hi1 : (0 : Int) < (i : Int) := by omega
    have hic : (i : Int) < 23 := by omega
    have hi2 : -22 ≤ -(i : Int) := by omega
    have hi3 : -(i : Int) < 0 := by omega
    have hi4 : ¬ 0 < -(i : Int) := by omega
    obtain ⟨y, hy⟩ : ∃ y, tenF i = y := ⟨_, rfl⟩
    rw [hy] at ci r1
    clear T n1 n3 l1 l3 hf3 hy hn hp hz
    cases neg
    · obtain rfl : f0 = f1 := HF.out
      clear HF r5
      go_enter Tryz.func62, Tryz.ntmps62
      go_wp2_with fail
      go_ret2
      exact ⟨rfl, rfl⟩
    · rw [HF.out] at r5
      clear HF
      go_enter Tryz.func62, Tryz.ntmps62
      go_wp2_with fail
      go_ret2
      exact ⟨rfl, rfl⟩
  · refine ⟨f1, false, l1, n1, fun sp w T => ?_⟩
    have i0 := T.inf0
    have hcase : 37 < exp ∨ exp < -22 := by omega
    clear T n1 l1 hp hn hz
    rcases hcase with hc | hc
    all_goals (
      cases neg
      · obtain rfl : f0 = f1 := HF.out
        clear HF r5
        go_enter Tryz.func62, Tryz.ntmps62
        go_wp2_with fail
        go_ret2
        exact ⟨rfl, rfl⟩
      · rw [HF.out] at r5
        clear HF
        go_enter Tryz.func62, Tryz.ntmps62
        go_wp2_with fail
        go_ret2
        exact ⟨rfl, rfl⟩)
end Go.Proofs.YtodihpaabkplhaaGreatDoor
