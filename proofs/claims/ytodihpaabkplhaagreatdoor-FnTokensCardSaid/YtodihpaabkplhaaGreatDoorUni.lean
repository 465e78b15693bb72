/- Contracts of the small number functions of internal/strconv: logarithms, rounding of unrounded numbers, bools as numbers. -/
import Derived.Test.YtodihpaabkplhaaGreatDoorProg
import Derived.Test.YtodihpaabkplhaaGreatDoorNum
import Derived.Lib.Mul64
import Derived.WalkSpells
import Derived.WalkLawsBesides
namespace Go.Proofs.YtodihpaabkplhaaGreatDoor
open Go.RowKit

theorem ret1 {k : IntKind} {a b : Int} (h : a = b) : Ending.returned (.int k a) = .returned (.int k b) := by rw [h]
theorem retb {a b : Bool} (h : a = b) : Ending.returned (.bool a) = .returned (.bool b) := by rw [h]
theorem ret2 {k l : IntKind} {a b c d : Int} (h : a = b) (h' : c = d) : Ending.returned (.tuple #[.int k a, .int l c]) = .returned (.tuple #[.int k b, .int l d]) := by rw [h, h']

theorem log10Pow2_any (x : Int) (w : World) (h0 : -100000 ≤ x) (h1 : x ≤ 100000) :
    Calls Tryz.prog 100 #[.int .i64 x] w fun e w' => e = .returned (.int .i64 (x * 78913 / 262144)) ∧ w = w' := by
  go_enter Tryz.func100, Tryz.ntmps100
  go_wp2
  go_ret
  exact ⟨rfl, rfl⟩
theorem log2Pow10_any (x : Int) (w : World) (h0 : -100000 ≤ x) (h1 : x ≤ 100000) :
    Calls Tryz.prog 76 #[.int .i64 x] w fun e w' => e = .returned (.int .i64 (x * 108853 / 32768)) ∧ w = w' := by
  go_enter Tryz.func76, Tryz.ntmps76
  go_wp2
  go_ret
  exact ⟨rfl, rfl⟩
theorem round_any (x : Int) (w : World) : Calls Tryz.prog 82 #[.int .u64 x] w fun e w' => e = .returned (.int .u64 (uRound x)) ∧ w = w' := by
  go_enter Tryz.func82, Tryz.ntmps82
  go_wp2
  go_ret
  exact ⟨rfl, rfl⟩
theorem unmin_any (x : Int) (w : World) : Calls Tryz.prog 80 #[.int .u64 x] w fun e w' => e = .returned (.int .u64 (uMin x)) ∧ w = w' := by
  go_enter Tryz.func80, Tryz.ntmps80
  go_wp2
  go_ret
  exact ⟨rfl, rfl⟩
theorem bool2_u64_any (b : Bool) (w : World) : Calls Tryz.prog 60 #[.bool b] w fun e w' => e = .returned (.int .u64 (b2i b)) ∧ w = w' := by
  cases b <;> (
    go_enter Tryz.func60, Tryz.ntmps60
    go_wp2
    go_ret
    exact ⟨rfl, rfl⟩)
theorem bool2_int_any (b : Bool) (w : World) : Calls Tryz.prog 79 #[.bool b] w fun e w' => e = .returned (.int .i64 (b2i b)) ∧ w = w' := by
  cases b <;> (
    go_enter Tryz.func79, Tryz.ntmps79
    go_wp2
    go_ret
    exact ⟨rfl, rfl⟩)

/-- math/bits.Mul64 (the proof's lines after the shelf's own). -/
theorem maskN (a : Nat) (ha : a < 18446744073709551616) : bits .and .u64 (a : Int) 4294967295 = ((a % 4294967296 : Nat) : Int) := by
  have h := bits_and_u64_nat a 4294967295 ha (by omega)
  have e : a &&& 4294967295 = a % 4294967296 := Nat.and_two_pow_sub_one_eq_mod a 32
  rw [e] at h
  exact h
theorem divN (a : Nat) : (a : Int) / 4294967296 = ((a / 4294967296 : Nat) : Int) := by omega
theorem mulN (a b : Nat) : (a : Int) * (b : Int) = ((a * b : Nat) : Int) := (Int.natCast_mul a b).symm
theorem addN (a b : Nat) : (a : Int) + (b : Int) = ((a + b : Nat) : Int) := (Int.natCast_add a b).symm
theorem wrapN (a : Nat) (ha : a < 18446744073709551616) : IntKind.u64.wrap (a : Int) = (a : Int) := by rw [IntKind.wrap_u64]; omega
theorem wrapM (a : Nat) : IntKind.u64.wrap (a : Int) = ((a % 18446744073709551616 : Nat) : Int) := by rw [IntKind.wrap_u64]; omega
set_option maxHeartbeats 1000000 in
theorem mul64_nat (x y : Nat) (hx : x < 18446744073709551616) (hy : y < 18446744073709551616) (w : World) :
    Calls Tryz.prog 90 #[.int .u64 x, .int .u64 y] w fun e w' => e = .returned (.tuple #[.int .u64 ((x * y / 18446744073709551616 : Nat) : Int), .int .u64 ((x * y % 18446744073709551616 : Nat) : Int)]) ∧ w = w' := by
  obtain ⟨bd, bt, bw, hhi⟩ := Lib.mul64_hi x y hx hy
  have ba := Lib.half_mul_le (a := x / 4294967296) (b := y / 4294967296) (by omega) (by omega)
  have bb := Lib.half_mul_le (a := x / 4294967296) (b := y % 4294967296) (by omega) (by omega)
  have bc := Lib.half_mul_le (a := x % 4294967296) (b := y / 4294967296) (by omega) (by omega)
  have ba' : x / 4294967296 * (y / 4294967296) < 18446744073709551616 := by omega
  have bb' : x / 4294967296 * (y % 4294967296) < 18446744073709551616 := by omega
  have bc' : x % 4294967296 * (y / 4294967296) < 18446744073709551616 := by omega
  have bh1 : x / 4294967296 * (y / 4294967296) + (x / 4294967296 * (y % 4294967296) + x % 4294967296 * (y % 4294967296) / 4294967296) / 4294967296 < 18446744073709551616 := by omega
  have bh : x / 4294967296 * (y / 4294967296) + (x / 4294967296 * (y % 4294967296) + x % 4294967296 * (y % 4294967296) / 4294967296) / 4294967296 + ((x / 4294967296 * (y % 4294967296) + x % 4294967296 * (y % 4294967296) / 4294967296) % 4294967296 + x % 4294967296 * (y / 4294967296)) / 4294967296 < 18446744073709551616 := by omega
  go_enter Tryz.func90, Tryz.ntmps90
  go_wp2
  simp only [maskN x hx, maskN y hy, divN, mulN, addN, wrapN _ bd, wrapN _ bb', wrapN _ bt, maskN _ bt, wrapN _ bc', wrapN _ bw, wrapN _ ba', wrapN _ bh1, wrapN _ bh, wrapM (x * y)]
  rw [hhi]
  go_ret2
  exact ⟨rfl, rfl⟩
theorem mul64_any (x y : Int) (hx : U64 x) (hy : U64 y) (w : World) :
    Calls Tryz.prog 90 #[.int .u64 x, .int .u64 y] w fun e w' => e = .returned (.tuple #[.int .u64 (mulHi x y), .int .u64 (mulLo x y)]) ∧ w = w' := by
  obtain ⟨a, rfl, ha⟩ := hx.nat
  obtain ⟨b, rfl, hb⟩ := hy.nat
  exact mul64_nat a b ha hb w

end Go.Proofs.YtodihpaabkplhaaGreatDoor
