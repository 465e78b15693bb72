/- decimal.Round and its parts. -/
import Derived.Test.YtodihpaabkplhaaGreatDoorDec
import Derived.RegionTactic
namespace Go.Proofs.YtodihpaabkplhaaGreatDoor
open Go.RowKit

def srU (s : Dec) (n : Nat) : Bool :=
  if s.d n = 53 ∧ n + 1 = s.nd then (s.tr || (decide (0 < n) && ((((s.d (n - 1)).toNat : Int) - 48) % 2 != 0))) else decide ((53 : Int) ≤ ((s.d n).toNat : Int))

set_option maxHeartbeats 2000000 in
theorem shouldUp_any (b n : Nat) (s : Dec) (w : World) (h : DecAt w b s) (hs : Digits s) (hn : n < s.nd) :
    Calls Tryz.prog 93 #[.pointer (some ⟨b, 0, none⟩), .int .i64 n] w fun e w' => e = .returned (.bool (srU s n)) ∧ w = w' := by
  obtain ⟨d, nd, dp, neg, tr⟩ := s
  have h800 := hs.1
  have hdg := hs.2
  simp only at hn h800 hdg
  have c0 := h.hnd
  have cn := h.dig (i := n) (by omega)
  have ct := h.htr
  simp only at c0 cn ct
  have dn := hdg n hn
  by_cases h5 : d n = 53
  · have hx : ((d n).toNat : Int) = 53 := by rw [h5]; rfl
    rw [hx] at cn
    by_cases hn1 : n + 1 = nd
    · have e1 : ((n : Int) + 1 == (nd : Int)) = true := by rw [beq_iff_eq]; omega
      cases tr with
      | true =>
        have hfin : srU ⟨d, nd, dp, neg, true⟩ n = true := by unfold srU; simp [h5, hn1]
        have HF := Lib.hid hfin
        clear hfin hn1 h5 hx dn hdg hs
        go_enter Tryz.func93, Tryz.ntmps93
        go_wp2
        go_ret
        exact ⟨retb HF.out.symm, rfl⟩
      | false =>
        cases n with
        | zero =>
          have e2 : ((1 : Int) == (nd : Int)) = true := by rw [beq_iff_eq]; omega
          have hfin : srU ⟨d, nd, dp, neg, false⟩ 0 = false := by unfold srU; simp [h5, hn1]
          have HF := Lib.hid hfin
          clear hfin hn1 h5 hx dn hdg hs
          go_enter Tryz.func93, Tryz.ntmps93
          go_wp2
          go_ret
          exact ⟨retb HF.out.symm, rfl⟩
        | succ m =>
          have cm := h.dig (i := m) (by omega)
          simp only at cm
          have dm := hdg m (by omega)
          have dm1 : (48 : Int) ≤ ((d m).toNat : Int) := by omega
          have dm2 : ((d m).toNat : Int) ≤ 57 := by omega
          have hfin : srU ⟨d, nd, dp, neg, false⟩ (m + 1) = ((((d m).toNat : Int) - 48) % 2 != 0) := by unfold srU; simp [h5, hn1]
          have HF := Lib.hid hfin
          clear hfin hn1 h5 hx dn hdg hs dm
          go_enter Tryz.func93, Tryz.ntmps93
          go_wp2
          go_ret
          exact ⟨retb HF.out.symm, rfl⟩
    · have e1 : ((n : Int) + 1 == (nd : Int)) = false := by rw [beq_eq_false_iff_ne]; omega
      have hfin : srU ⟨d, nd, dp, neg, tr⟩ n = true := by
        unfold srU
        simp only
        rw [if_neg (fun h => hn1 h.2), hx]
        rfl
      have HF := Lib.hid hfin
      clear hfin hn1 h5 hx dn hdg hs
      go_enter Tryz.func93, Tryz.ntmps93
      go_wp2
      go_ret
      exact ⟨retb HF.out.symm, rfl⟩
  · have hx : (((d n).toNat : Int) == 53) = false := by
      rw [beq_eq_false_iff_ne]
      exact fun h => h5 ((u8_eq_toNat _ 53 (by decide)).2 h)
    have hfin : srU ⟨d, nd, dp, neg, tr⟩ n = decide ((53 : Int) ≤ ((d n).toNat : Int)) := by
      unfold srU
      simp only
      rw [if_neg (fun h => h5 h.1)]
    have HF := Lib.hid hfin
    clear hfin h5 dn hdg hs
    go_enter Tryz.func93, Tryz.ntmps93
    go_wp2
    go_ret
    exact ⟨retb HF.out.symm, rfl⟩

end Go.Proofs.YtodihpaabkplhaaGreatDoor
