/- decimal.Shift. -/
import Derived.Test.YtodihpaabkplhaaGreatDoorLsh
import Derived.Test.YtodihpaabkplhaaGreatDoorRsh
namespace Go.Proofs.YtodihpaabkplhaaGreatDoor
open Go.RowKit

def shiftLN : Nat → Dec → Nat → Dec
  | 0, s, k => leftD s k
  | f + 1, s, k => if 60 < k then shiftLN f (leftD s 60) (k - 60) else leftD s k
def shiftRN : Nat → Dec → Nat → Dec
  | 0, s, k => rightD s k
  | f + 1, s, k => if 60 < k then shiftRN f (rightD s 60) (k - 60) else rightD s k
def shiftD (s : Dec) (k : Int) : Dec := if 0 < k then shiftLN k.toNat s k.toNat else if k < 0 then shiftRN (-k).toNat s (-k).toNat else s

theorem shiftLN_good : ∀ (f : Nat) (s : Dec) (k : Nat), Good s → 1 ≤ k → k ≤ f → Good (shiftLN f s k) ∧ s.dp ≤ (shiftLN f s k).dp ∧ (shiftLN f s k).dp ≤ s.dp + k + 19
  | 0, s, k, hs, k1, hf => by omega
  | f + 1, s, k, hs, k1, hf => by
    rw [shiftLN]
    by_cases h : 60 < k
    · rw [if_pos h]
      obtain ⟨g1, g2⟩ := leftD_good hs (k := 60) (by omega) (by omega)
      have := (left_bounds hs (k := 60) (by omega) (by omega)).1
      obtain ⟨i1, i2, i3⟩ := shiftLN_good f (leftD s 60) (k - 60) g1 (by omega) (by omega)
      refine ⟨i1, by omega, by omega⟩
    · rw [if_neg h]
      obtain ⟨g1, g2⟩ := leftD_good hs (k := k) (by omega) (by omega)
      have := (left_bounds hs (k := k) (by omega) (by omega)).1
      refine ⟨g1, by omega, by omega⟩
theorem shiftRN_good : ∀ (f : Nat) (s : Dec) (k : Nat), Good s → 1 ≤ k → k ≤ f → Good (shiftRN f s k) ∧ (shiftRN f s k).dp ≤ s.dp ∧ s.dp - k - 19 ≤ (shiftRN f s k).dp
  | 0, s, k, hs, k1, hf => by omega
  | f + 1, s, k, hs, k1, hf => by
    rw [shiftRN]
    by_cases h : 60 < k
    · rw [if_pos h]
      obtain ⟨g1, g2, g3⟩ := rightD_good hs (k := 60) (by omega)
      obtain ⟨i1, i2, i3⟩ := shiftRN_good f (rightD s 60) (k - 60) g1 (by omega) (by omega)
      refine ⟨i1, by omega, by omega⟩
    · rw [if_neg h]
      obtain ⟨g1, g2, g3⟩ := rightD_good hs (k := k) (by omega)
      refine ⟨g1, by omega, by omega⟩
theorem shiftD_good {s : Dec} (hs : Good s) (k : Int) : Good (shiftD s k) ∧ (shiftD s k).dp ≤ s.dp + k.natAbs + 19 ∧ s.dp - k.natAbs - 19 ≤ (shiftD s k).dp := by
  unfold shiftD
  split
  · obtain ⟨h1, h2, h3⟩ := shiftLN_good k.toNat s k.toNat hs (by omega) (by omega)
    exact ⟨h1, by omega, by omega⟩
  · split
    · obtain ⟨h1, h2, h3⟩ := shiftRN_good (-k).toNat s (-k).toNat hs (by omega) (by omega)
      exact ⟨h1, by omega, by omega⟩
    · exact ⟨hs, by omega, by omega⟩

set_option maxHeartbeats 1600000 in
theorem shift_any (cb co b : Nat) (k : Int) (s : Dec) (W w : World) (h : DecAt w b s) (hs : Good s) (hT : Tabs cb co W) (hW : Below W.heap.size W w) (hb : W.heap.size ≤ b) (k1 : -2000 ≤ k) (k2 : k ≤ 2000) (hp1 : -10000 ≤ s.dp) (hp2 : s.dp ≤ 10000) :
    Calls Tryz.prog 83 #[.pointer (some ⟨b, 0, none⟩), .int .i64 k] w fun e w' => e = .returned (.tuple #[]) ∧ DecAt w' b (shiftD s k) ∧ Below b w w' := by
  have c0 := h.hnd
  obtain ⟨R, hR⟩ : ∃ R, shiftD s k = R := ⟨_, rfl⟩
  have hnd := hs.pos
  have hnd0 : ((s.nd : Int) == 0) = false := by rw [beq_eq_false_iff_ne]; omega
  have HS := Lib.hid hs
  clear hs
  have HT := Lib.hid hT
  clear hT
  have HW := Lib.hid hW
  clear hW
  by_cases hk : 0 < k
  · obtain ⟨K, rfl⟩ : ∃ K : Nat, k = K := ⟨k.toNat, by omega⟩
    have hR1 : shiftLN K s K = R := by
      rw [← hR]
      unfold shiftD
      rw [if_pos hk, Int.toNat_natCast]
    rw [hR]
    clear hR
    go_enter Tryz.func83, Tryz.ntmps83
    go_wp2_with fail
    have hkb : decide (0 < K) = true := decide_eq_true (by omega)
    rw [hkb]
    clear hkb
    go_loopg [1] K (fun m v wr => ∃ (f : Nat) (s' : Dec), v = .int .i64 m ∧ 1 ≤ m ∧ m ≤ 2000 ∧ m ≤ f ∧ Hid (Good s') ∧ s.dp ≤ s'.dp ∧ s'.dp + m ≤ s.dp + K ∧ Hid (shiftLN f s' m = R) ∧ DecAt wr b s' ∧ Hid (Below b w wr))
    case atStart => exact ⟨K, s, rfl, by omega, by omega, by omega, HS, by omega, by omega, hR1, h, Below.refl _ _⟩
    case round =>
      clear h hR1 c0 hnd hnd0
      obtain ⟨f, s', rfl, m1, m2, mf, hg, hd1, hd2, hl, hd, hB⟩ := hrel
      have hTr : Tabs cb co wr := HT.out.below (HW.out.trans (hB.out.mono hb))
      have hc := fun j (j1 : 1 ≤ j) (j2 : j ≤ 60) => leftShift_any cb co b j s' wr hd hg.out hTr j1 j2 (by omega) (by omega)
      have hl0 := hl.out
      clear hl
      by_cases hm : 60 < gk
      · have hm' : (60 : Int) < gk := by omega
        cases f with
        | zero => omega
        | succ f =>
          rw [shiftLN, if_pos hm] at hl0
          have HL := Lib.hid hl0
          clear hl0 hTr
          have hc60 := hc 60 (by omega) (by omega)
          clear hc
          go_wp2_with fail
          refine hc60.mono ?_
          rintro e w2 ⟨rfl, hd3, hb3⟩
          go_wp2
          have hlg := leftD_good hg.out (k := 60) (by omega) (by omega)
          have hlb := (left_bounds hg.out (k := 60) (by omega) (by omega)).1
          go_roundg (gk - 60)
          case measure => omega
          case rel => exact ⟨f, _, by congr 1; omega, by omega, by omega, by omega, hlg.1, by omega, by omega, HL.out, hd3, hB.out.trans hb3⟩
      · have hm' : ¬ (60 : Int) < gk := by omega
        have hfin : leftD s' gk = R := by
          rw [← hl0]
          cases f with
          | zero => rfl
          | succ f => rw [shiftLN, if_neg hm]
        have HF := Lib.hid hfin
        clear hfin hl0 hTr
        have hcm := hc gk m1 (by omega)
        clear hc
        go_wp2_with fail
        refine hcm.mono ?_
        rintro e w2 ⟨rfl, hd3, hb3⟩
        go_wp2
        go_end0
        exact ⟨rfl, by rw [← HF.out]; exact hd3, hB.out.trans hb3⟩
  · by_cases hk0 : k < 0
    · obtain ⟨K, rfl⟩ : ∃ K : Nat, k = -(K : Int) := ⟨(-k).toNat, by omega⟩
      have hR1 : shiftRN K s K = R := by
        rw [← hR]
        unfold shiftD
        rw [if_neg hk, if_pos hk0, Int.neg_neg, Int.toNat_natCast]
      rw [hR]
      clear hR
      go_enter Tryz.func83, Tryz.ntmps83
      go_wp2_with fail
      go_loopg [1] K (fun m v wr => ∃ (f : Nat) (s' : Dec), v = .int .i64 (-(m : Int)) ∧ 1 ≤ m ∧ m ≤ 2000 ∧ m ≤ f ∧ Hid (Good s') ∧ s'.dp ≤ s.dp ∧ s.dp + m ≤ s'.dp + K ∧ Hid (shiftRN f s' m = R) ∧ DecAt wr b s' ∧ Hid (Below b w wr))
      case atStart => exact ⟨K, s, rfl, by omega, by omega, by omega, HS, by omega, by omega, hR1, h, Below.refl _ _⟩
      case round =>
        clear h hR1 c0 hnd hnd0
        obtain ⟨f, s', rfl, m1, m2, mf, hg, hd1, hd2, hl, hd, hB⟩ := hrel
        have hc := fun j (j1 : 1 ≤ j) (j2 : j ≤ 60) => rightShift_any b j s' wr hd hg.out j1 j2 (by omega) (by omega)
        have hl0 := hl.out
        clear hl
        by_cases hm : 60 < gk
        · have hm' : -(gk : Int) < -60 := by omega
          cases f with
          | zero => omega
          | succ f =>
            rw [shiftRN, if_pos hm] at hl0
            have HL := Lib.hid hl0
            clear hl0
            have hc60 := hc 60 (by omega) (by omega)
            clear hc
            go_wp2_with fail
            refine hc60.mono ?_
            rintro e w2 ⟨rfl, hd3, hb3⟩
            go_wp2
            have hlg := rightD_good hg.out (k := 60) (by omega)
            go_roundg (gk - 60)
            case measure => omega
            case rel => exact ⟨f, _, by congr 1; omega, by omega, by omega, by omega, hlg.1, by omega, by omega, HL.out, hd3, hB.out.trans hb3⟩
        · have hm' : ¬ -(gk : Int) < -60 := by omega
          have hfin : rightD s' gk = R := by
            rw [← hl0]
            cases f with
            | zero => rfl
            | succ f => rw [shiftRN, if_neg hm]
          have HF := Lib.hid hfin
          clear hfin hl0
          have hcm := hc gk m1 (by omega)
          clear hc
          go_wp2_with fail
          refine hcm.mono ?_
          rintro e w2 ⟨rfl, hd3, hb3⟩
          go_wp2
          go_end0
          exact ⟨rfl, by rw [← HF.out]; exact hd3, hB.out.trans hb3⟩
    · have hk1 : k = 0 := by omega
      subst hk1
      have hR1 : s = R := by rw [← hR]; rfl
      have HF := Lib.hid hR1
      rw [hR]
      clear hR hR1 hk hk0
      go_enter Tryz.func83, Tryz.ntmps83
      go_wp2
      go_end0
      exact ⟨rfl, by rw [← HF.out]; exact h, Below.refl _ _⟩
end Go.Proofs.YtodihpaabkplhaaGreatDoor
