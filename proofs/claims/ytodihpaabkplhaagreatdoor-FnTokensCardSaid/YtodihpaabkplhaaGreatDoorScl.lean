/- Contracts of div, prescale and uscale. -/
import Derived.Test.YtodihpaabkplhaaGreatDoorUni
import Derived.Deep.QuietTactic
import Derived.BigQuiet
import Derived.Lib.Hide
import Derived.Lib.Builder
namespace Go.Proofs.YtodihpaabkplhaaGreatDoor
open Go.RowKit

theorem tdiv_u64 {x : Int} (hx : U64 x) : IntKind.u64.wrap (x.tdiv 10) = x / 10 := by
  rw [Int.tdiv_eq_ediv_of_nonneg hx.1]
  exact u64_wrap_id (u64_div hx 10)


theorem and63_le (s : Int) : 0 ≤ bits BinOp.and IntKind.i64 s 63 ∧ bits BinOp.and IntKind.i64 s 63 ≤ 63 := by
  have e : bits BinOp.and IntKind.i64 s 63 = IntKind.i64.wrap ((BitVec.ofInt 64 s &&& 63#64).toNat : Int) := rfl
  have h : (BitVec.ofInt 64 s &&& 63#64).toNat ≤ 63 := by
    rw [BitVec.toNat_and]
    exact Nat.and_le_right
  rw [e, IntKind.wrap_i64]
  omega

/-- uscale: unround(x * 2^e * 10^p). -/
def uScale (x hi lo s : Int) : Int :=
  if IntKind.u64.wrap (mulHi x hi / 2 ^ (bits BinOp.and IntKind.i64 s 63).toNat * 2 ^ (bits BinOp.and IntKind.i64 s 63).toNat) != mulHi x hi then
    bits BinOp.or IntKind.u64 (mulHi x hi / 2 ^ (bits BinOp.and IntKind.i64 s 63).toNat) 1
  else bits BinOp.or IntKind.u64 (IntKind.u64.wrap (mulHi x hi - b2i (decide (mulLo x hi < mulHi x lo))) / 2 ^ (bits BinOp.and IntKind.i64 s 63).toNat) (b2i (decide (IntKind.u64.wrap (mulLo x hi - mulHi x lo) > 1)))
theorem u64_uScale (x hi lo s : Int) : U64 (uScale x hi lo s) := by
  unfold uScale
  split
  · exact u64_bits _ _ _
  · exact u64_bits _ _ _

set_option maxHeartbeats 1000000 in
theorem uscale_any (x hi lo s : Int) (hx : U64 x) (hhi : U64 hi) (hlo : U64 lo) (b : Nat) (w : World)
    (c0 : w.cell? ⟨b, 0, none⟩ = some (.int .u64 hi)) (c1 : w.cell? ⟨b, 1, none⟩ = some (.int .u64 lo)) (c2 : w.cell? ⟨b, 2, none⟩ = some (.int .i64 s)) :
    Calls Tryz.prog 78 #[.int .u64 x, .pointer (some ⟨b, 0, none⟩)] w fun e w' => e = .returned (.int .u64 (uScale x hi lo s)) ∧ ∃ n, w' = w.drewN n := by
  obtain ⟨t, ht⟩ : ∃ t, bits BinOp.and IntKind.i64 s 63 = t := ⟨_, rfl⟩
  have t0 : 0 ≤ t := ht ▸ (and63_le s).1
  have t1 : t ≤ 63 := ht ▸ (and63_le s).2
  have hdef : uScale x hi lo s = if IntKind.u64.wrap (mulHi x hi / 2 ^ t.toNat * 2 ^ t.toNat) != mulHi x hi then
    bits BinOp.or IntKind.u64 (mulHi x hi / 2 ^ t.toNat) 1
    else bits BinOp.or IntKind.u64 (IntKind.u64.wrap (mulHi x hi - b2i (decide (mulLo x hi < mulHi x lo))) / 2 ^ t.toNat) (b2i (decide (IntKind.u64.wrap (mulLo x hi - mulHi x lo) > 1))) := by rw [← ht]; rfl
  have Hdef := Lib.hid hdef
  clear hdef
  go_enter Tryz.func78, Tryz.ntmps78
  go_wp2_with (first
    | (go_at_call 90; refine (mul64_any _ _ hx (by assumption) _).mono ?_; rintro e w' ⟨rfl, rfl⟩)
    | (go_at_call 60; refine (bool2_u64_any _ _).mono ?_; rintro e w' ⟨rfl, rfl⟩))
  · have h : (IntKind.u64.wrap (mulHi x hi / 2 ^ t.toNat * 2 ^ t.toNat) != mulHi x hi) = true := by assumption
    have HH := Lib.hid h
    go_ret
    exact ⟨ret1 (by rw [Hdef.out, if_pos HH.out]), 0, rfl⟩
  · have h : (IntKind.u64.wrap (mulHi x hi / 2 ^ t.toNat * 2 ^ t.toNat) != mulHi x hi) = false := by assumption
    have HH := Lib.hid h
    go_quiet ((go_at_call 60; exact Calls.quiet_of_same ((bool2_u64_any _ _).mono fun _ _ h => ⟨h.1, h.2.symm⟩)))
    go_wp2
    go_ret
    exact ⟨ret1 (by rw [Hdef.out, if_neg (by rw [HH.out]; decide)]), _, rfl⟩

/-- prescale: the three numbers go into the scaler's cells. -/
theorem prescale_any (b i : Nat) (e p lp hi lo : Int) (w : World) (hi0 : p + 348 = i) (hi1 : i < 696) (e0 : -100000 ≤ e) (e1 : e ≤ 100000) (l0 : -100000 ≤ lp) (l1 : lp ≤ 100000)
    (hb : w.heap[b]? = some (.cells #[.int .u64 0, .int .u64 0, .int .i64 0] 143 (0, 0)))
    (t0 : w.cell? ⟨9, i * 2, none⟩ = some (.int .u64 hi)) (t1 : w.cell? ⟨9, i * 2 + 1, none⟩ = some (.int .u64 lo)) :
    Calls Tryz.prog 77 #[.pointer (some ⟨b, 0, none⟩), .int .i64 e, .int .i64 p, .int .i64 lp] w fun en w' => en = .returned (.tuple #[]) ∧ w'.heap[b]? = some (.cells #[.int .u64 hi, .int .u64 lo, .int .i64 (-(e + lp + 3))] 143 (0, 0)) ∧ Below b w w' := by
  have c0 : w.cell? ⟨b, 0, none⟩ = some (.int .u64 0) := by rw [Lib.cell_of_heap hb]; rfl
  have c1 : w.cell? ⟨b, 1, none⟩ = some (.int .u64 0) := by rw [Lib.cell_of_heap hb]; rfl
  have c2 : w.cell? ⟨b, 2, none⟩ = some (.int .i64 0) := by rw [Lib.cell_of_heap hb]; rfl
  have f0 : w.frozen? ⟨b, 0, none⟩ = false := Lib.frozen_of_heap hb 0
  have f1 : w.frozen? ⟨b, 1, none⟩ = false := Lib.frozen_of_heap hb 1
  have f2 : w.frozen? ⟨b, 2, none⟩ = false := Lib.frozen_of_heap hb 2
  go_enter Tryz.func77, Tryz.ntmps77
  go_wp2
  go_end0
  refine ⟨rfl, ?_, (((Below.refl b w).setCell (Nat.le_refl _) _).setCell (Nat.le_refl _) _).setCell (Nat.le_refl _) _⟩
  simp [World.setCell, Array.getElem?_modify, hb]
end Go.Proofs.YtodihpaabkplhaaGreatDoor
