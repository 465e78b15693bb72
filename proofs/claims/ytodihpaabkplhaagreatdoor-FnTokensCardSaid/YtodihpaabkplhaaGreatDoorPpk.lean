/- pack64, parseFloat64: they end, and what they give hangs on their arguments alone. -/
import Derived.Test.YtodihpaabkplhaaGreatDoorPtb
import Derived.Test.YtodihpaabkplhaaGreatDoorScl
import Derived.Test.YtodihpaabkplhaaGreatDoorShelf
import Derived.Lib.BitFns
import Derived.Laws.Externs
import Derived.KernelRfl
namespace Go.Proofs.YtodihpaabkplhaaGreatDoor
open Go.RowKit

@[go_sem] theorem call_frombits (args : Array Value) (w : World) : (callFunc 61 args).run Tryz.prog w = ((Extern.MathFloatBits.float64frombits args).run Tryz.prog w).andThen fun v w' => .ok (.value v) w' :=
  run_callFunc_extern Tryz.func61 (by kernel_rfl) (by kernel_rfl) (by kernel_rfl) (by kernel_rfl) args w
@[go_sem] theorem frombits_run (b : Int) (w : World) : (Extern.MathFloatBits.float64frombits #[.int .u64 b]).run Tryz.prog w = .ok (.float .f64 b.toNat) w := rfl
theorem U64.toNat_lt {x : Int} (h : U64 x) : x.toNat < 18446744073709551616 := by
  obtain ⟨n, rfl, h2⟩ := h.nat
  rw [Int.toNat_natCast]
  exact h2

theorem heap_new (w : World) (o : Obj) : (w.alloc o).heap[w.heap.size]? = some o := by
  show (w.heap.push o)[w.heap.size]? = _
  simp
/-- No error; or one of internal/strconv's, by its number. -/
def errV : Nat → Value
  | 0 => .nilIface
  | n => .iface 75 (.int .i64 n)

set_option maxRecDepth 100000 in
set_option maxHeartbeats 2000000 in
theorem pack_any (m e : Int) (hm : U64 m) (e0 : -100000 ≤ e) (e1 : e ≤ 100000) : ∃ (x r : Nat), x < 18446744073709551616 ∧ r ≤ 1 ∧ ∀ (w : World),
    Calls Tryz.prog 85 #[.int .u64 m, .int .i64 e] w fun en w' => en = .returned (.tuple #[.float .f64 x, errV r]) ∧ w' = w := by
  have hm0 := hm.1
  have hm1 := hm.2
  obtain ⟨z, hz⟩ : ∃ z, (bits BinOp.and IntKind.u64 m 4503599627370496 == 0) = z := ⟨_, rfl⟩
  have HM := Lib.hid hm1
  clear hm1
  cases z
  · by_cases h9 : 972 ≤ e
    · refine ⟨_, 1, (u64_bits BinOp.or (bits BinOp.and IntKind.u64 m 9223372036854775808) 9218868437227405312).toNat_lt, by omega, fun w => ?_⟩
      clear hm
      go_enter Tryz.func85, Tryz.ntmps85
      go_wp2_with fail
      go_ret2
      exact ⟨rfl, rfl⟩
    · refine ⟨_, 0, (u64_bits BinOp.or (bits BinOp.andNot IntKind.u64 m 4503599627370496) (IntKind.u64.wrap (IntKind.u64.wrap (1075 + e) * 4503599627370496))).toNat_lt, by omega, fun w => ?_⟩
      clear hm
      go_enter Tryz.func85, Tryz.ntmps85
      go_wp2_with fail
      go_ret2
      exact ⟨rfl, rfl⟩
  · refine ⟨_, 0, hm.toNat_lt, by omega, fun w => ?_⟩
    clear hm
    go_enter Tryz.func85, Tryz.ntmps85
    go_wp2_with fail
    go_ret2
    exact ⟨rfl, rfl⟩

theorem len64_any (x : Int) (w : World) (hx : U64 x) :
    Calls Tryz.prog 75 #[.int .u64 x] w fun e w' => e = .returned (.int .i64 (Lib.bitLen x.toNat)) ∧ w = w' :=
  (Any.bits_Len64 lays129 x w hx.1 (by have := hx.2; omega)).mono fun _ _ h => ⟨h.1, h.2.symm⟩

theorem land_or (x s : Int) : U64 (bits BinOp.or IntKind.u64 x s) := u64_bits _ _ _

set_option maxRecDepth 100000 in
set_option maxHeartbeats 4000000 in
theorem parse64_any (m : Nat) (p s : Int) (hm1 : 1 ≤ m) (hm : m < 18446744073709551616) (p0 : -345 ≤ p) (p1 : p ≤ 310) (hs : U64 s) : ∃ (x r : Nat), x < 18446744073709551616 ∧ r ≤ 1 ∧ ∀ (sp : Spots) (w : World) (_ : Tab2 sp w),
    Calls Tryz.prog 63 #[.int .u64 m, .int .i64 p, .int .u64 s] w fun en w' => en = .returned (.tuple #[.float .f64 x, errV r]) ∧ Below w.heap.size w w' := by
  have hL : 1 ≤ Lib.bitLen m ∧ Lib.bitLen m ≤ 64 := by
    refine ⟨?_, Lib.bitLen_le m 64 (Nat.le_refl _) hm⟩
    rcases Nat.eq_zero_or_pos (Lib.bitLen m) with h | h
    · have := Lib.bitLen_half m (by omega) hm
      omega
    · exact h
  have hlen : ∀ w : World, Calls Tryz.prog 75 #[.int .u64 m] w fun e w' => e = .returned (.int .i64 (Lib.bitLen m)) ∧ w = w' := by
    intro w
    have := len64_any (m : Int) w ⟨by omega, by omega⟩
    rw [Int.toNat_natCast] at this
    exact this
  obtain ⟨L, hLe⟩ : ∃ L, Lib.bitLen m = L := ⟨_, rfl⟩
  rw [hLe] at hL hlen
  obtain ⟨S, hS⟩ : ∃ S : Nat, (64 : Int) - (L : Int) = (S : Int) := ⟨64 - L, by omega⟩
  obtain ⟨lp, hlp⟩ : ∃ lp, p * 108853 / 32768 = lp := ⟨_, rfl⟩
  have hlpb : -2000 ≤ lp ∧ lp ≤ 2000 := by omega
  obtain ⟨e, he⟩ : ∃ e : Int, min 1074 (53 - (L : Int) - lp) = e := ⟨_, rfl⟩
  have heb : -3000 ≤ e ∧ e ≤ 1074 := by omega
  obtain ⟨i, hi⟩ : ∃ i : Nat, p + 348 = i := ⟨(p + 348).toNat, by omega⟩
  obtain ⟨q, hq⟩ : ∃ q : Int, -(e - (S : Int) + lp + 3) = q := ⟨_, rfl⟩
  have base : ∀ (sp : Spots) (w : World), Tab2 sp w → ∃ W, w.alloc (.cells #[.int .u64 0, .int .u64 0, .int .i64 0] 143) = W ∧ Below w.heap.size w W ∧
      Calls Tryz.prog 77 #[.pointer (some ⟨w.heap.size, 0, none⟩), .int .i64 (e - (S : Int)), .int .i64 p, .int .i64 lp] W fun en w' => en = .returned (.tuple #[]) ∧ w'.heap[w.heap.size]? = some (.cells #[.int .u64 (pmHi i), .int .u64 (pmLo i), .int .i64 q] 143 (0, 0)) ∧ Below w.heap.size W w' := by
    intro sp w T
    refine ⟨_, rfl, (Below.refl _ _).alloc (Nat.le_refl _) _, ?_⟩
    have TW := T.tabs.below (w := w.alloc (.cells #[.int .u64 0, .int .u64 0, .int .i64 0] 143)) ((Below.refl _ _).alloc (Nat.le_refl _) _)
    have h := prescale_any w.heap.size i (e - (S : Int)) p lp (pmHi i) (pmLo i) _ hi (by omega) (by omega) (by omega) (by omega) (by omega) (heap_new _ _) (TW.hi i (by omega)) (TW.lo i (by omega))
    rw [hq] at h
    exact h
  have HB := Lib.hid base
  have HLEN := Lib.hid hlen
  have hs0 := hs.1
  have hm0 : (0 : Int) ≤ (m : Int) := by omega
  have hi696 : i < 696 := by omega
  have HS := Lib.hid hs
  have HM := Lib.hid hm
  clear base hlen hi hq hs hm hLe
  by_cases h64 : 64 ≤ q
  · refine ⟨_, 0, (land_or s 0).toNat_lt, by omega, fun sp w T => ?_⟩
    obtain ⟨W, hW, hBW, hpr⟩ := HB.out sp w T
    have HPR := Lib.hid hpr
    clear T hpr
    go_enter Tryz.func63, Tryz.ntmps63
    go_wp2_with fail
    refine (HLEN.out _).mono ?_
    rintro en w2 ⟨rfl, rfl⟩
    go_wp2_with fail
    refine (log2Pow10_any _ _ (by omega) (by omega)).mono ?_
    rintro en w2 ⟨rfl, rfl⟩
    rw [hlp]
    go_wp2_with fail
    refine HPR.out.mono ?_
    rintro en w2 ⟨rfl, hb2, hB2⟩
    have c2 : w2.cell? ⟨w.heap.size, 2, none⟩ = some (.int .i64 q) := by rw [Lib.cell_of_heap hb2]; rfl
    clear hb2
    go_wp2_with fail
    go_ret2
    exact ⟨rfl, hBW.trans hB2⟩
  · obtain ⟨D, hD⟩ : ∃ D, IntKind.u64.wrap ((m : Int) * 2 ^ S) = D := ⟨_, rfl⟩
    have uD : U64 D := hD ▸ u64_wrap _
    obtain ⟨u, hu⟩ : ∃ u, uScale D (pmHi i) (pmLo i) q = u := ⟨_, rfl⟩
    have hus := fun b w => uscale_any D (pmHi i) (pmLo i) q uD (u64_pmHi i hi696) (u64_pmLo i hi696) b w
    rw [hu] at hus
    have uu : U64 u := hu ▸ u64_uScale _ _ _ _
    have hu0 := uu.1
    have HUS := Lib.hid hus
    clear hus hu uu
    by_cases hg : uMin 9007199254740992 ≤ u
    · skip
      obtain ⟨x, r, hx, hr, hpk⟩ := pack_any (bits BinOp.or IntKind.u64 s (uRound (bits BinOp.or IntKind.u64 (u / 2) (bits BinOp.and IntKind.u64 u 1)))) (-(e - 1)) (u64_bits _ _ _) (by omega) (by omega)
      refine ⟨x, r, hx, hr, fun sp w T => ?_⟩
      obtain ⟨W, hW, hBW, hpr⟩ := HB.out sp w T
      have HPR := Lib.hid hpr
      have HPK := Lib.hid hpk
      clear T hpr uD hpk hx
      go_enter Tryz.func63, Tryz.ntmps63
      go_wp2_with fail
      refine (HLEN.out _).mono ?_
      rintro en w2 ⟨rfl, rfl⟩
      go_wp2_with fail
      refine (log2Pow10_any _ _ (by omega) (by omega)).mono ?_
      rintro en w2 ⟨rfl, rfl⟩
      rw [hlp]
      go_wp2_with fail
      refine HPR.out.mono ?_
      rintro en w2 ⟨rfl, hb2, hB2⟩
      have c2 : w2.cell? ⟨w.heap.size, 2, none⟩ = some (.int .i64 q) := by rw [Lib.cell_of_heap hb2]; rfl
      have c0 : w2.cell? ⟨w.heap.size, 0, none⟩ = some (.int .u64 (pmHi i)) := by rw [Lib.cell_of_heap hb2]; rfl
      have c1 : w2.cell? ⟨w.heap.size, 1, none⟩ = some (.int .u64 (pmLo i)) := by rw [Lib.cell_of_heap hb2]; rfl
      clear hb2
      go_wp2_with fail
      refine (HUS.out _ _ c0 c1 c2).mono ?_
      rintro en w3 ⟨rfl, nq, rfl⟩
      go_wp2_with fail
      refine (unmin_any _ _).mono ?_
      rintro en w4 ⟨rfl, rfl⟩
      go_wp2_with fail
      refine (bool2_int_any _ _).mono ?_
      rintro en w5 ⟨rfl, rfl⟩
      have hb1 : b2i (decide (uMin 9007199254740992 ≤ u)) = 1 := by rw [decide_eq_true hg]; rfl
      have hb2 : b2i true = 1 := rfl
      have hb3 : b2i false = 0 := rfl
      go_wp2_with fail
      refine (round_any _ _).mono ?_
      rintro en w6 ⟨rfl, rfl⟩
      go_wp2_with fail
      refine (HPK.out _).mono ?_
      rintro en w7 ⟨rfl, rfl⟩
      go_wp2_with fail
      go_ret2
      exact ⟨rfl, Below.drewN (hBW.trans hB2) _⟩
    · skip
      obtain ⟨x, r, hx, hr, hpk⟩ := pack_any (bits BinOp.or IntKind.u64 s (uRound (bits BinOp.or IntKind.u64 u (bits BinOp.and IntKind.u64 u 1)))) (-e) (u64_bits _ _ _) (by omega) (by omega)
      refine ⟨x, r, hx, hr, fun sp w T => ?_⟩
      obtain ⟨W, hW, hBW, hpr⟩ := HB.out sp w T
      have HPR := Lib.hid hpr
      have HPK := Lib.hid hpk
      clear T hpr uD hpk hx
      go_enter Tryz.func63, Tryz.ntmps63
      go_wp2_with fail
      refine (HLEN.out _).mono ?_
      rintro en w2 ⟨rfl, rfl⟩
      go_wp2_with fail
      refine (log2Pow10_any _ _ (by omega) (by omega)).mono ?_
      rintro en w2 ⟨rfl, rfl⟩
      rw [hlp]
      go_wp2_with fail
      refine HPR.out.mono ?_
      rintro en w2 ⟨rfl, hb2, hB2⟩
      have c2 : w2.cell? ⟨w.heap.size, 2, none⟩ = some (.int .i64 q) := by rw [Lib.cell_of_heap hb2]; rfl
      have c0 : w2.cell? ⟨w.heap.size, 0, none⟩ = some (.int .u64 (pmHi i)) := by rw [Lib.cell_of_heap hb2]; rfl
      have c1 : w2.cell? ⟨w.heap.size, 1, none⟩ = some (.int .u64 (pmLo i)) := by rw [Lib.cell_of_heap hb2]; rfl
      clear hb2
      go_wp2_with fail
      refine (HUS.out _ _ c0 c1 c2).mono ?_
      rintro en w3 ⟨rfl, nq, rfl⟩
      go_wp2_with fail
      refine (unmin_any _ _).mono ?_
      rintro en w4 ⟨rfl, rfl⟩
      go_wp2_with fail
      refine (bool2_int_any _ _).mono ?_
      rintro en w5 ⟨rfl, rfl⟩
      have hb1 : b2i (decide (uMin 9007199254740992 ≤ u)) = 0 := by rw [decide_eq_false (by omega)]; rfl
      have hb2 : b2i true = 1 := rfl
      have hb3 : b2i false = 0 := rfl
      go_wp2_with fail
      refine (round_any _ _).mono ?_
      rintro en w6 ⟨rfl, rfl⟩
      go_wp2_with fail
      refine (HPK.out _).mono ?_
      rintro en w7 ⟨rfl, rfl⟩
      go_wp2_with fail
      go_ret2
      exact ⟨rfl, Below.drewN (hBW.trans hB2) _⟩
end Go.Proofs.YtodihpaabkplhaaGreatDoor
