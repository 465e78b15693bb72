/- Plain numbers: the words in which the contracts of the number functions speak. No program in sight. -/
import Derived.WalkKit

import Derived.Laws.BitsAllLaws
import Derived.Laws.Bits64b
namespace Go.Proofs.YtodihpaabkplhaaGreatDoor
open Go.RowKit

/-- A number of the kind uint64. -/
def U64 (x : Int) : Prop := 0 ≤ x ∧ x < 18446744073709551616
theorem U64.nn {x : Int} (h : U64 x) : 0 ≤ x := h.1
theorem U64.lt {x : Int} (h : U64 x) : x < 18446744073709551616 := h.2
theorem U64.nat {x : Int} (h : U64 x) : ∃ n : Nat, x = n ∧ n < 18446744073709551616 := ⟨x.toNat, by have := h.1; omega, by have := h.1; have := h.2; omega⟩
theorem U64.small {x : Int} (h0 : 0 ≤ x) (h1 : x ≤ 4294967296) : U64 x := ⟨h0, by omega⟩

theorem u64_wrap (x : Int) : U64 (IntKind.u64.wrap x) := by
  rw [IntKind.wrap_u64]
  exact ⟨by omega, by omega⟩
theorem u64_wrap_id {x : Int} (h : U64 x) : IntKind.u64.wrap x = x := by
  have h1 := h.1
  have h2 := h.2
  rw [IntKind.wrap_u64]
  omega
theorem u64_bits (op : BinOp) (x y : Int) : U64 (bits op .u64 x y) := by
  unfold bits
  exact u64_wrap _
theorem u64_div {x : Int} (h : U64 x) (k : Nat) : U64 (x / (k : Int)) := by
  have h1 := h.1
  have h2 := h.2
  refine ⟨Int.ediv_nonneg h1 (by omega), ?_⟩
  rcases Nat.eq_zero_or_pos k with rfl | hk
  · simp
  · have : x / (k : Int) ≤ x := Int.ediv_le_self _ h1
    omega

/-- math/bits.Mul64's two halves. -/
def mulHi (x y : Int) : Int := x * y / 18446744073709551616
def mulLo (x y : Int) : Int := x * y % 18446744073709551616
theorem u64_mulLo (x y : Int) : U64 (mulLo x y) := ⟨by unfold mulLo; omega, by unfold mulLo; omega⟩
theorem u64_mulHi {x y : Int} (hx : U64 x) (hy : U64 y) : U64 (mulHi x y) := by
  obtain ⟨a, rfl, ha⟩ := hx.nat
  obtain ⟨b, rfl, hb⟩ := hy.nat
  unfold mulHi
  rw [← Int.natCast_mul]
  have h : a * b < 18446744073709551616 * 18446744073709551616 := Nat.mul_lt_mul'' ha hb
  refine ⟨by omega, ?_⟩
  omega
/-- A bool as a number. -/
def b2i (b : Bool) : Int := if b then 1 else 0
theorem b2i_le (b : Bool) : 0 ≤ b2i b ∧ b2i b ≤ 1 := by cases b <;> simp [b2i]

/-- unrounded.round, floor, ceil, nudge, div; unmin. -/
def uRound (u : Int) : Int := IntKind.u64.wrap (IntKind.u64.wrap (u + 1) + bits BinOp.and IntKind.u64 (u / 4) 1) / 4
def uFloor (u : Int) : Int := IntKind.u64.wrap (u + 0) / 4
def uCeil (u : Int) : Int := IntKind.u64.wrap (u + 3) / 4
def uNudge (u d : Int) : Int := IntKind.u64.wrap (u + IntKind.u64.wrap d)
def uMin (x : Int) : Int := IntKind.u64.wrap (IntKind.u64.wrap (x * 4) - 2)
def uDiv10 (u : Int) : Int := bits BinOp.or IntKind.u64 (bits BinOp.or IntKind.u64 (u / 10) (bits BinOp.and IntKind.u64 u 1)) (b2i (u % 10 != 0))
theorem u64_uRound (u : Int) : U64 (uRound u) := u64_div (u64_wrap _) 4
theorem u64_uFloor (u : Int) : U64 (uFloor u) := u64_div (u64_wrap _) 4
theorem u64_uCeil (u : Int) : U64 (uCeil u) := u64_div (u64_wrap _) 4
theorem u64_uNudge (u d : Int) : U64 (uNudge u d) := u64_wrap _
theorem u64_uMin (x : Int) : U64 (uMin x) := u64_wrap _
theorem u64_uDiv10 (u : Int) : U64 (uDiv10 u) := u64_bits _ _ _

end Go.Proofs.YtodihpaabkplhaaGreatDoor
