/- decimal.Assign: the digits of a number. -/
import Derived.Test.YtodihpaabkplhaaDoorDec
import Derived.Test.YtodihpaabkplhaaDoorDig
import Derived.RegionTactic
namespace Go.Proofs.YtodihpaabkplhaaDoor
open Go.RowKit

def digsD (u n : Nat) (D : Nat → UInt8) (k : Nat) (i : Nat) : UInt8 := if i < k then Lib.dg u (n - 1 - i) else D i
def assignD (u : Nat) (s : Dec) : Dec := trimD { s with d := digsD u (nDig u) s.d (nDig u), nd := nDig u, dp := nDig u }

theorem nDig_pos_iff (u k : Nat) : 0 < u / 10 ^ k ↔ k < nDig u := by
  constructor
  · intro h
    have h1 := nDig_lt u
    rcases Nat.lt_or_ge k (nDig u) with h2 | h2
    · exact h2
    · have := Nat.pow_le_pow_right (n := 10) (by decide) h2
      rw [Nat.div_eq_of_lt (by omega)] at h
      omega
  · intro h
    have h0 : u ≠ 0 := by
      intro e
      subst e
      simp [nDig] at h
    have hn : nDig u = Lib.nDigits u := by unfold nDig; rw [if_neg h0]
    rw [hn] at h
    refine Nat.div_pos ?_ (Nat.pow_pos (by decide))
    clear hn
    induction k generalizing u with
    | zero => simp; omega
    | succ k ih =>
      by_cases h10 : u < 10
      · rw [Lib.nDigits_small h10] at h; omega
      · rw [Lib.nDigits_big h10] at h
        have := ih (u / 10) (by omega) (by omega)
        rw [Nat.pow_succ]
        omega

def bufD (u k i : Nat) : UInt8 := if i < k then Lib.dg u i else 0
theorem bufD_succ (u k : Nat) : (fun j => if j = k then Lib.dg u k else bufD u k j) = bufD u (k + 1) := by
  funext j
  unfold bufD
  by_cases e : j = k
  · subst e
    rw [if_pos rfl, if_pos (by omega)]
  · rw [if_neg e]
    by_cases h : j < k
    · rw [if_pos h, if_pos (by omega)]
    · rw [if_neg h, if_neg (by omega)]
theorem fill_at (n : Nat) (v : Value) (i : Nat) (hi : i < (Array.replicate n v).size) : (Array.replicate n v)[i]? = some v := by
  rw [Array.size_replicate] at hi
  rw [Array.getElem?_replicate, if_pos hi]
theorem digsD_succ (u n k : Nat) (D : Nat → UInt8) : upd (digsD u n D k) k (Lib.dg u (n - 1 - k)) = digsD u n D (k + 1) := by
  funext j
  show (if j = k then Lib.dg u (n - 1 - k) else if j < k then Lib.dg u (n - 1 - j) else D j) = if j < k + 1 then Lib.dg u (n - 1 - j) else D j
  by_cases e : j = k
  · subst e
    rw [if_pos rfl, if_pos (by omega)]
  · rw [if_neg e]
    by_cases h : j < k
    · rw [if_pos h, if_pos (by omega)]
    · rw [if_neg h, if_neg (by omega)]

set_option maxHeartbeats 2000000 in
theorem assign_any (b u : Nat) (s : Dec) (w : World) (h : DecAt w b s) (hu : u < 18446744073709551616) :
    Calls Tryd.prog 76 #[.pointer (some ⟨b, 0, none⟩), .int .u64 u] w fun e w' => e = .returned (.tuple #[]) ∧ DecAt w' b (assignD u s) ∧ Below b w w' := by
  obtain ⟨g, hg⟩ : ∃ g, w.heap.size = g := ⟨_, rfl⟩
  have hbg : b < g := hg ▸ h.blt
  have HU := Lib.hid hu
  clear hu
  go_enter Tryd.func76, Tryd.ntmps76
  go_wp2_with fail
  go_loopw [1, 5] (fun v n wr => ∃ k : Nat, k ≤ nDig u ∧ v = .int .u64 ((u / 10 ^ k : Nat) : Int) ∧ n = .int .i64 k ∧ Cells wr g 109 24 (byteC (bufD u k)) ∧ DecAt wr b s ∧ Below g w wr) (fun _ n _ => nDig u - (intOf n).toNat)
  case atStart =>
    refine ⟨0, Nat.zero_le _, by simp, rfl, ?_, Cells.alloc h _, hg ▸ (Below.refl _ _).alloc (by omega) _⟩
    rw [← hg]
    exact Cells.new w 109 (Array.replicate 24 (.int .u8 0)) (byteC (bufD u 0)) (fill_at 24 (.int .u8 0))
  case round =>
    clear h hg
    obtain ⟨k, hk, rfl, rfl, hc, hd, hb⟩ := hrel
    have hn20 : nDig u ≤ 20 := nDig_le u HU.out
    by_cases hlt : k < nDig u
    · have hV0 := (nDig_pos_iff u k).2 hlt
      have hVs : u / 10 ^ (k + 1) = u / 10 ^ k / 10 := by rw [Nat.pow_succ, Nat.div_div_eq_div_mul]
      have hVd : (Lib.dg u k).toNat = 48 + u / 10 ^ k % 10 := by
        unfold Lib.dg
        have : u / 10 ^ k % 10 < 10 := Nat.mod_lt _ (by decide)
        simp; omega
      have hVle : u / 10 ^ k < 18446744073709551616 := Nat.lt_of_le_of_lt (Nat.div_le_self _ _) HU.out
      obtain ⟨V, hV⟩ : ∃ V, u / 10 ^ k = V := ⟨_, rfl⟩
      rw [hV] at hV0 hVs hVd hVle ⊢
      have HV := Lib.hid (And.intro hV hVs)
      have HD := Lib.hid hVd
      clear hV hVs hVd
      have ck := hc.cell (i := k) (by omega)
      have fk := hc.frozen k
      go_wp2
      go_roundw
      case rel =>
        have hval : Value.int IntKind.u8 ((V : Int) - 10 * ((V : Int) / 10) + 48) = .int .u8 ((Lib.dg u k).toNat : Int) := by
          rw [HD.out]; congr 1; omega
        rw [hval]
        refine ⟨k + 1, by omega, ?_, by go_num, ?_, Cells.setOther hd (by simp; omega) _, hb.setCell (Nat.le_refl _) _⟩
        · rw [HV.out.2]; congr 1
        · have := hc.set (i := k) (by omega) (.int .u8 ((Lib.dg u k).toNat : Int))
          rw [byteC_set _ k (Lib.dg u k) _ rfl, bufD_succ] at this
          exact this
      case measure => simp [intOf]; omega
    · have hkn : k = nDig u := by omega
      have hV0 : u / 10 ^ k = 0 := by
        have h1 := (nDig_pos_iff u k).1
        rcases Nat.eq_zero_or_pos (u / 10 ^ k) with h2 | h2
        · exact h2
        · have := h1 h2
          omega
      rw [hV0]
      have hcast : ((0 : Nat) : Int) = 0 := rfl
      rw [hcast]
      clear hcast
      obtain ⟨n, hn⟩ : ∃ n, nDig u = n := ⟨_, rfl⟩
      rw [hn] at hkn hn20
      subst hkn
      have HN := Lib.hid hn
      clear hn hV0 hk hlt
      have c0 := hd.hnd
      have f0 := hd.fz 800
      go_wp2
      have hd0 := hd.setNd 0 (.int .i64 0) rfl
      have hc0 := Cells.setOther hc (a := ⟨b, 800, none⟩) (by simp; omega) (.int .i64 0)
      have hb0 := (hb.mono (Nat.le_of_lt hbg)).setCell (p := ⟨b, 800, none⟩) (Nat.le_refl _) (.int .i64 0)
      clear hb hc hd
      obtain ⟨W0, hW0⟩ : ∃ W0, wr.setCell ⟨b, 800, none⟩ (.int .i64 0) = W0 := ⟨_, rfl⟩
      rw [hW0] at hd0 hc0 hb0 ⊢
      clear hW0 c0 f0
      go_loopw [5] (fun v wr => ∃ j : Nat, j ≤ k ∧ v = .int .i64 ((k : Int) - 1 - j) ∧ DecAt wr b { s with d := digsD u k s.d j, nd := j } ∧ Cells wr g 109 24 (byteC (bufD u k)) ∧ Below b w wr) (fun v _ => (intOf v + 1).toNat)
      case atStart => exact ⟨0, Nat.zero_le _, by simp, hd0, hc0, hb0⟩
      case round =>
        clear hd0 hc0 hb0
        obtain ⟨j, hj, rfl, hd, hc, hb⟩ := hrel
        have c0 := hd.hnd
        have f0 := hd.fz 800
        simp only at c0
        by_cases hlt : j < k
        · obtain ⟨i, hi⟩ : ∃ i : Nat, (k : Int) - 1 - (j : Int) = (i : Int) := ⟨k - 1 - j, by omega⟩
          have hi1 : i < 24 := by omega
          have hik : Hid (k - 1 - j = i) := by show _ = _; omega
          rw [hi]
          have ci := hc.cell (i := i) (by omega)
          have fj := hd.fz j
          have hdj := hd.dig (i := j) (by omega)
          have hbi : bufD u k i = Lib.dg u (k - 1 - j) := by
            unfold bufD
            rw [if_pos (by omega), hik.out]
          unfold byteC at ci
          rw [hbi] at ci
          obtain ⟨x, hx⟩ : ∃ x, Lib.dg u (k - 1 - j) = x := ⟨_, rfl⟩
          rw [hx] at ci
          have HX := Lib.hid hx
          have HI := Lib.hid hi
          clear hx hbi hi
          go_wp2
          go_region
          all_goals go_wp2
          go_roundw
          case rel =>
            have hd1 := hd.setDig (i := j) (by omega) x (.int .u8 (x.toNat : Int)) rfl
            rw [← HX.out] at hd1
            simp only [digsD_succ] at hd1
            rw [HX.out] at hd1
            refine ⟨j + 1, by omega, by (have := HI.out; congr 1; omega), hd1.setNd (j + 1) _ rfl, (Cells.setOther (Cells.setOther hc (a := ⟨b, j, none⟩) (by simp; omega) _) (a := ⟨b, 800, none⟩) (by simp; omega) _), ((hb.setCell (p := ⟨b, j, none⟩) (Nat.le_refl _) _).setCell (p := ⟨b, 800, none⟩) (Nat.le_refl _) _).drew⟩
          case measure => simp [intOf]
        · obtain rfl : k = j := by omega
          have hm : (k : Int) - 1 - (k : Int) = -1 := by omega
          rw [hm]
          have f1 := hd.fz 801
          have c1 := hd.hdp
          clear hlt hj hm
          go_wp2_with fail
          have hd2 := hd.setDp (k : Int) (.int .i64 (k : Int)) rfl
          have hb2 := hb.setCell (p := ⟨b, 801, none⟩) (Nat.le_refl _) (.int .i64 (k : Int))
          refine (trim_any b _ _ hd2 (by simp only; omega)).mono ?_
          rintro e w4 ⟨rfl, hd4, hb4⟩
          go_wp2
          go_end0
          refine ⟨rfl, ?_, hb2.trans hb4⟩
          unfold assignD
          rw [HN.out]
          exact hd4

theorem assignD_digits (u : Nat) (hu : u < 18446744073709551616) (s : Dec) : Digits (assignD u s) := by
  apply trimD_digits
  have := nDig_le u hu
  refine ⟨by simp only; omega, ?_⟩
  intro i hi
  simp only at hi ⊢
  unfold digsD Lib.dg
  rw [if_pos hi]
  have h10 : u / 10 ^ (nDig u - 1 - i) % 10 < 10 := Nat.mod_lt _ (by decide)
  have : (UInt8.ofNat (48 + u / 10 ^ (nDig u - 1 - i) % 10)).toNat = 48 + u / 10 ^ (nDig u - 1 - i) % 10 := by simp; omega
  rw [this]
  omega
theorem assignD_dp (u : Nat) (hu : u < 18446744073709551616) (s : Dec) : 0 ≤ (assignD u s).dp ∧ (assignD u s).dp ≤ 20 := by
  have := nDig_le u hu
  unfold assignD trimD
  simp only
  split <;> omega
end Go.Proofs.YtodihpaabkplhaaDoor
