/- setDigits: a number's digits laid into a row, the zeros at the end counted off. -/
import Derived.Test.YtodihpaabkplhaaDoorDig
import Derived.Test.YtodihpaabkplhaaDoorCel
namespace Go.Proofs.YtodihpaabkplhaaDoor
open Go.RowKit

def digD (u nd : Nat) (D : Nat → UInt8) (i : Nat) : UInt8 := if i < nd then Lib.dg u (nd - 1 - i) else D i

theorem formatBase10_any (b N cap nd u : Nat) (T : TypeId) (D : Nat → UInt8) (w : World) (h : Cells w b T N (byteC D)) (hn : nd ≤ N) (hN : N ≤ 1000) (hu : u < 10 ^ nd) (hu64 : u < 18446744073709551616) :
    Calls Tryd.prog 93 #[.slice (some ⟨b, 0, none⟩) nd cap, .int .u64 u] w fun e w' => e = .returned (.tuple #[]) ∧ Cells w' b T N (byteC (digD u nd D)) ∧ Below b w w' := by
  have hs := arrOf_size D nd
  have H := internal_strconv_formatBase10 b 0 cap u (arrOf D nd) w (h.holds hn) (by rw [hs]; exact hu) hu64 (by rw [hs]; omega)
  rw [hs] at H
  refine H.mono ?_
  rintro e w' ⟨rfl, n, v', dk, rfl, hf⟩
  refine ⟨rfl, ?_, Below.drewN (Below.putRow w b dk) n⟩
  refine ((h.putRow dk).drewN n).congr fun i hi => ?_
  have hd := hf.size
  show Value.int .u8 ((if i < dk.size then dk[i]! else D i : UInt8).toNat : Int) = Value.int .u8 ((if i < nd then Lib.dg u (nd - 1 - i) else D i : UInt8).toNat : Int)
  by_cases hlt : i < nd
  · rw [if_pos (by omega), if_pos hlt, hf.done i (by omega) (by omega)]
  · rw [if_neg (by omega), if_neg hlt]

set_option maxHeartbeats 1000000 in
theorem setDigits_any (b N cap nd u : Nat) (p : Int) (T : TypeId) (D : Nat → UInt8) (w : World) (h : Cells w b T N (byteC D)) (hn : nd ≤ N) (hN : N ≤ 1000) (hc : N ≤ cap) (hcap : cap ≤ 1000) (hu : u < 10 ^ nd) (hu64 : u < 18446744073709551616)
    (p0 : -100000 ≤ p) (p1 : p ≤ 100000) :
    Calls Tryd.prog 72 #[.slice (some ⟨b, 0, none⟩) N cap, .int .u64 u, .int .i64 p, .int .i64 nd] w fun e w' =>
      e = .returned (.tuple #[.int .i64 (nd + p), .int .i64 (trimN (digD u nd D) nd)]) ∧ Cells w' b T N (byteC (digD u nd D)) ∧ Below b w w' := by
  have HU := Lib.hid hu
  have HU64 := Lib.hid hu64
  clear hu hu64
  go_enter Tryd.func72, Tryd.ntmps72
  go_wp2_with fail
  refine (formatBase10_any b N _ nd u T D _ h hn hN HU.out HU64.out).mono ?_
  rintro e w1 ⟨rfl, h1, hB1⟩
  clear h
  obtain ⟨E, hE⟩ : ∃ E, digD u nd D = E := ⟨_, rfl⟩
  rw [hE] at h1
  have HE := Lib.hid hE
  clear hE
  go_wp2_with fail
  go_loop [3] (fun v => ∃ k : Nat, k ≤ nd ∧ v = .int .i64 k ∧ Hid (trimN E k = trimN E nd)) (fun v => (intOf v).toNat)
  case atStart => exact ⟨nd, Nat.le_refl _, rfl, rfl⟩
  case round =>
    obtain ⟨k, hk, rfl, ht⟩ := hrel
    cases k with
    | zero =>
      go_wp2
      go_ret2
      exact ⟨ret2 rfl (by rw [HE.out, ← ht.out]; rfl), by rw [HE.out]; exact h1, hB1⟩
    | succ j =>
      have hcj := h1.cell (i := j) (by omega)
      unfold byteC at hcj
      by_cases h48 : E j = 48
      · have hx : ((E j).toNat : Int) = 48 := by rw [h48]; rfl
        have ht' : Hid (trimN E j = trimN E nd) := by
          have h2 := ht.out
          rw [trimN, if_pos h48] at h2
          exact h2
        clear ht h48
        rw [hx] at hcj
        clear hx
        go_wp2
        go_round
        case rel => exact ⟨j, by omega, rfl, ht'⟩
        case measure => simp [intOf]
      · have hx : (((E j).toNat : Int) == 48) = false := by
          rw [beq_eq_false_iff_ne]
          exact fun h => h48 ((u8_eq_toNat _ 48 (by decide)).2 h)
        have ht' : Hid (((j + 1 : Nat) : Int) = ((trimN E nd : Nat) : Int)) := by
          have h2 := ht.out
          rw [trimN, if_neg h48] at h2
          exact congrArg _ h2
        clear ht h48
        go_wp2
        go_ret2
        exact ⟨ret2 rfl (by rw [HE.out]; exact ht'.out), by rw [HE.out]; exact h1, hB1⟩
end Go.Proofs.YtodihpaabkplhaaDoor
