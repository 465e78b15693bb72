/- decimal.RoundedInteger: it ends, and what it gives hangs on the decimal alone. -/
import Derived.Test.YtodihpaabkplhaaGreatDoorRnd
import Derived.Test.YtodihpaabkplhaaGreatDoorPtb
namespace Go.Proofs.YtodihpaabkplhaaGreatDoor
open Go.RowKit

theorem shouldUp_idle (b : Nat) (n : Int) (s : Dec) (w : World) (h : DecAt w b s) (hn : n < 0 ∨ (s.nd : Int) ≤ n) :
    Calls Tryz.prog 93 #[.pointer (some ⟨b, 0, none⟩), .int .i64 n] w fun e w' => e = .returned (.bool false) ∧ w = w' := by
  have c0 := h.hnd
  rcases hn with hn | hn
  · go_enter Tryz.func93, Tryz.ntmps93
    go_wp2
    go_ret
    exact ⟨rfl, rfl⟩
  · go_enter Tryz.func93, Tryz.ntmps93
    go_wp2
    all_goals (
      go_ret
      exact ⟨rfl, rfl⟩)
theorem shouldUp_all (s : Dec) (hs : Digits s) (n : Int) : ∃ t : Bool, ∀ (b : Nat) (w : World), DecAt w b s → Calls Tryz.prog 93 #[.pointer (some ⟨b, 0, none⟩), .int .i64 n] w fun e w' => e = .returned (.bool t) ∧ w = w' := by
  rcases Int.lt_or_le n 0 with h | h
  · exact ⟨false, fun b w hd => shouldUp_idle b n s w hd (Or.inl h)⟩
  · rcases Int.lt_or_le n s.nd with h2 | h2
    · obtain ⟨k, rfl⟩ : ∃ k : Nat, n = k := ⟨n.toNat, by omega⟩
      exact ⟨srU s k, fun b w hd => shouldUp_any b k s w hd hs (by omega)⟩
    · exact ⟨false, fun b w hd => shouldUp_idle b n s w hd (Or.inr h2)⟩

def ri1 (d : Nat → UInt8) : Nat → Int
  | 0 => 0
  | i + 1 => IntKind.u64.wrap (IntKind.u64.wrap (ri1 d i * 10) + (((d i).toNat : Int) - 48))
def ri2 (x : Int) : Nat → Int
  | 0 => x
  | i + 1 => IntKind.u64.wrap (ri2 x i * 10)
theorem u64_ri1 (d : Nat → UInt8) : ∀ i, U64 (ri1 d i)
  | 0 => ⟨by simp [ri1], by simp [ri1]⟩
  | _ + 1 => u64_wrap _
theorem u64_ri2 {x : Int} (h : U64 x) : ∀ i, U64 (ri2 x i)
  | 0 => h
  | _ + 1 => u64_wrap _

set_option maxHeartbeats 2000000 in
theorem rounded_any (s : Dec) (hs : Digits s) (d0 : -100000 ≤ s.dp) (d1 : s.dp ≤ 100000) : ∃ m : Nat, m < 18446744073709551616 ∧ ∀ (b : Nat) (w : World), DecAt w b s →
    Calls Tryz.prog 84 #[.pointer (some ⟨b, 0, none⟩)] w fun e w' => e = .returned (.int .u64 m) ∧ w = w' := by
  obtain ⟨t, ht⟩ := shouldUp_all s hs s.dp
  have hdg := hs.2
  obtain ⟨d, nd, dp, neg, tr⟩ := s
  simp only at d0 d1 ht hdg
  rcases Int.lt_or_le 20 dp with h20 | h20
  · refine ⟨18446744073709551615, by decide, fun b w hd => ?_⟩
    have c1 := hd.hdp
    simp only at c1
    clear ht hdg hs
    go_enter Tryz.func84, Tryz.ntmps84
    go_wp2_with fail
    go_ret
    exact ⟨rfl, rfl⟩
  · obtain ⟨k1, hk1⟩ : ∃ k1, min dp.toNat nd = k1 := ⟨_, rfl⟩
    obtain ⟨k2, hk2⟩ : ∃ k2, dp.toNat - k1 = k2 := ⟨_, rfl⟩
    obtain ⟨n2, hn2⟩ : ∃ n2, ri2 (ri1 d k1) k2 = n2 := ⟨_, rfl⟩
    have hu2 : U64 n2 := hn2 ▸ u64_ri2 (u64_ri1 d k1) k2
    obtain ⟨m, hm, hm2⟩ : ∃ m : Nat, ((m : Int) = if t then IntKind.u64.wrap (n2 + 1) else n2) ∧ m < 18446744073709551616 := by
      have hu : U64 (if t then IntKind.u64.wrap (n2 + 1) else n2) := by
        split
        · exact u64_wrap _
        · exact hu2
      obtain ⟨m, h1, h2⟩ := hu.nat
      exact ⟨m, h1.symm, h2⟩
    refine ⟨m, hm2, fun b w hd => ?_⟩
    have c0 := hd.hnd
    have c1 := hd.hdp
    simp only at c0 c1
    have HT := Lib.hid (ht b w hd)
    have HM := Lib.hid hm
    have HN2 := Lib.hid hn2
    have HU := Lib.hid hu2
    have hnd := hs.1
    simp only at hnd
    clear ht hm hn2 hm2 hs hu2
    go_enter Tryz.func84, Tryz.ntmps84
    go_wp2_with fail
    go_loopg [3, 4] k1 (fun k vi vn wr => ∃ i : Nat, k + i = k1 ∧ vi = .int .i64 (i : Int) ∧ vn = .int .u64 (ri1 d i) ∧ wr = w)
    case atStart => exact ⟨0, by omega, rfl, rfl, rfl⟩
    case round =>
      obtain ⟨i, hi, rfl, rfl, rfl⟩ := hrel
      cases gk with
      | zero =>
        have hik : i = k1 := by omega
        subst hik
        have hstop : ¬ (i : Int) < dp ∨ (i : Int) < dp ∧ ¬ (i : Int) < (nd : Int) := by omega
        have hu1 := u64_ri1 d i
        obtain ⟨n1, hn1⟩ : ∃ n1, ri1 d i = n1 := ⟨_, rfl⟩
        have HN3 := HN2.out
        rw [hn1] at HN3 hu1 ⊢
        have HN4 := Lib.hid HN3
        have HU1 := Lib.hid hu1
        clear HN3 HN2 hn1 hu1 hi
        rcases hstop with h1 | ⟨h1, h2⟩
        all_goals (
          go_wp2_with fail
          go_loopg [3, 4] k2 (fun k vi vn wx => ∃ j : Nat, k + j = k2 ∧ vi = .int .i64 ((i + j : Nat) : Int) ∧ vn = .int .u64 (ri2 n1 j) ∧ wx = wr)
          case atStart => exact ⟨0, by omega, rfl, rfl, rfl⟩
          case round =>
            obtain ⟨j, hj, rfl, rfl, rfl⟩ := hrel
            cases gk with
            | zero =>
              have hjk : j = k2 := by omega
              subst hjk
              have hst2 : ¬ ((i + j : Nat) : Int) < dp := by omega
              rw [HN4.out]
              clear hj hk2
              go_wp2_with fail
              refine HT.out.mono ?_
              rintro e w' ⟨rfl, rfl⟩
              have hm := HM.out
              cases t with
              | true =>
                have HM2 := Lib.hid hm
                clear hm
                go_wp2_with fail
                go_ret
                exact ⟨ret1 (by rw [HM2.out]; rfl), rfl⟩
              | false =>
                have HM2 := Lib.hid hm
                clear hm
                go_wp2_with fail
                go_ret
                exact ⟨ret1 (by rw [HM2.out]; rfl), rfl⟩
            | succ k =>
              first
                | (exfalso; omega)
                | (have hlt : ((i + j : Nat) : Int) < dp := by omega
                   have hu3 := u64_ri2 HU1.out j
                   have hnext : ri2 n1 (j + 1) = IntKind.u64.wrap (ri2 n1 j * 10) := rfl
                   obtain ⟨x, hx⟩ : ∃ x, ri2 n1 j = x := ⟨_, rfl⟩
                   rw [hx] at hu3 hnext ⊢
                   have hx0 := hu3.1
                   have HX := Lib.hid hnext
                   clear hx hnext hu3
                   go_wp2_with fail
                   go_roundg k
                   case measure => omega
                   case rel => exact ⟨j + 1, by omega, by first | rfl | (congr 1; omega), by rw [HX.out], rfl⟩))
      | succ k =>
        have hlt1 : (i : Int) < dp := by omega
        have hlt2 : (i : Int) < (nd : Int) := by omega
        have hu3 := u64_ri1 d i
        have cd := hd.dig (i := i) (by omega)
        have hdi := hdg i (by omega)
        have hnext : ri1 d (i + 1) = IntKind.u64.wrap (IntKind.u64.wrap (ri1 d i * 10) + (((d i).toNat : Int) - 48)) := rfl
        simp only at cd
        obtain ⟨y, hy⟩ : ∃ y, (d i).toNat = y := ⟨_, rfl⟩
        rw [hy] at cd hdi hnext
        obtain ⟨x, hx⟩ : ∃ x, ri1 d i = x := ⟨_, rfl⟩
        rw [hx] at hu3 hnext ⊢
        have hx0 := hu3.1
        have hy1 : (48 : Int) ≤ y := by omega
        have hy2 : (y : Int) ≤ 57 := by omega
        have HX := Lib.hid hnext
        clear hx hnext hu3 hy hdi
        go_wp2_with fail
        go_roundg k
        case measure => omega
        case rel => exact ⟨i + 1, by omega, by first | rfl | (congr 1; omega), by rw [HX.out], rfl⟩
end Go.Proofs.YtodihpaabkplhaaGreatDoor
