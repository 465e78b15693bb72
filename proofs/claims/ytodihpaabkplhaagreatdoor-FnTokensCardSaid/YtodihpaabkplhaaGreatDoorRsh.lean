/- decimal's rightShift. -/
import Derived.Test.YtodihpaabkplhaaGreatDoorRsp
import Derived.Deep.DeepCutAuto
import Derived.Deep.CutBlock
import Derived.RegionTactic
import Derived.Lib.ItoaWalk
namespace Go.Proofs.YtodihpaabkplhaaGreatDoor
open Go.RowKit

theorem maskP (n k : Nat) (hn : n < 18446744073709551616) (k2 : k ≤ 60) : bits .and .u64 (n : Int) (((2 ^ k : Nat) : Int) - 1) = ((n % 2 ^ k : Nat) : Int) := by
  have hp := Nat.two_pow_pos k
  have h1 : 2 ^ k ≤ 2 ^ 60 := Nat.pow_le_pow_right (by decide) k2
  have h := bits_and_u64_nat n (2 ^ k - 1) hn (by omega)
  rw [Nat.and_two_pow_sub_one_eq_mod] at h
  rw [show ((2 ^ k : Nat) : Int) - 1 = ((2 ^ k - 1 : Nat) : Int) by omega]
  exact h

theorem putD_lt' {D : Nat → UInt8} {w m : Nat} (h : w < 800) : putD D w m = upd D w (UInt8.ofNat (m + 48)) := by unfold putD; rw [if_pos h]
theorem putD_ge' {D : Nat → UInt8} {w m : Nat} (h : ¬ w < 800) : putD D w m = D := by unfold putD; rw [if_neg h]
theorem putT_lt' {t : Bool} {w m : Nat} (h : w < 800) : putT t w m = t := by unfold putT; rw [if_pos h]
theorem putT_ge' {t : Bool} {w m : Nat} (h : ¬ w < 800) : putT t w m = if m = 0 then t else true := by unfold putT; rw [if_neg h]

set_option maxRecDepth 100000 in
set_option maxHeartbeats 1600000 in
theorem rightShift_any (b k : Nat) (s : Dec) (w : World) (h : DecAt w b s) (hs : Good s) (k1 : 1 ≤ k) (k2 : k ≤ 60) (hp1 : -100000 ≤ s.dp) (hp2 : s.dp ≤ 100000) :
    Calls Tryz.prog 92 #[.pointer (some ⟨b, 0, none⟩), .int .u64 k] w fun e w' => e = .returned (.tuple #[]) ∧ DecAt w' b (rightD s k) ∧ Below b w w' := by
  have hend := rs1_end hs k k2 s.nd 0 0 (RInv.start k) (by omega) (by omega)
  obtain ⟨A, hA⟩ : ∃ A, rs1 k s.d s.nd 0 0 = A := ⟨_, rfl⟩
  rw [hA] at hend
  have HE := Lib.hid hend
  clear hend
  have hRD : rightD s k = trimD { d := (rs4 k (k + 1) (rs3 k (s.nd - A.1) s.d A.1 0 A.2).1 s.tr (rs3 k (s.nd - A.1) s.d A.1 0 A.2).2.1 (rs3 k (s.nd - A.1) s.d A.1 0 A.2).2.2).1, nd := (rs4 k (k + 1) (rs3 k (s.nd - A.1) s.d A.1 0 A.2).1 s.tr (rs3 k (s.nd - A.1) s.d A.1 0 A.2).2.1 (rs3 k (s.nd - A.1) s.d A.1 0 A.2).2.2).2.2, dp := s.dp - (A.1 - 1), neg := s.neg, tr := (rs4 k (k + 1) (rs3 k (s.nd - A.1) s.d A.1 0 A.2).1 s.tr (rs3 k (s.nd - A.1) s.d A.1 0 A.2).2.1 (rs3 k (s.nd - A.1) s.d A.1 0 A.2).2.2).2.1 } := by
    unfold rightD
    simp only [hA]
  have HR := Lib.hid hRD
  clear hRD
  have HS := Lib.hid hs
  clear hs
  obtain ⟨d0, nd, dp, neg, tr⟩ := s
  simp only at hp1 hp2 hA HR
  have h800 : nd ≤ 800 := HS.out.dig.1
  have hHA := Lib.hid hA
  clear hA
  have hP64 : 2 ^ k ≤ 2 ^ 60 := Nat.pow_le_pow_right (by decide) k2
  have hP0 := Nat.two_pow_pos k
  obtain ⟨P, hP⟩ : ∃ P, 2 ^ k = P := ⟨_, rfl⟩
  have hPi : (2 : Int) ^ k = (P : Int) := by rw [← hP]; simp
  rw [hP] at hP64 hP0
  have hP60 : P ≤ 1152921504606846976 := hP64
  clear hP64
  have HP := Lib.hid hP
  clear hP
  go_enter Tryz.func92, Tryz.ntmps92
  go_upto_block 0 with fail
  go_cut [4, 6] (fun v n wx => v = .int .i64 (A.1 : Int) ∧ n = .int .u64 (A.2 : Int) ∧ wx = w)
  case first =>
    go_wp2_with fail
    go_loopg [4, 6] nd (fun m v n wr => ∃ r N : Nat, v = .int .i64 r ∧ n = .int .u64 N ∧ r + m = nd ∧ RInv k r N ∧ r ≤ 20 ∧ Hid (rs1 k d0 m r N = A) ∧ DecAt wr b ⟨d0, nd, dp, neg, tr⟩ ∧ Hid (wr = w))
    case atStart => exact ⟨0, 0, rfl, rfl, by omega, RInv.start k, by omega, hHA, h, rfl⟩
    case round =>
      clear hHA
      have hw0 := h
      clear h
      obtain ⟨r, N, rfl, rfl, hm, hi, h20, hl, h, hw⟩ := hrel
      clear hw0
      have hl0 := hl.out
      clear hl
      have hN64 := hi.up
      rw [HP.out] at hN64
      have hNP : (N : Int) / (P : Int) = ((N / P : Nat) : Int) := by simp
      have hr8 : (r : Int) ≤ 800 := by omega
      have c0 := h.hnd
      simp only at c0
      cases gk with
      | zero =>
        have hrn : r = nd := by omega
        subst hrn
        clear hm
        rw [rs1] at hl0
        have hlX := Lib.hid hl0
        clear hl0
        by_cases hq : N / P = 0
        · have hN0 : ((N : Int) == 0) = false := by
            rw [beq_eq_false_iff_ne]
            have h1 := hi.pos HS.out.pos
            have : 0 < 10 ^ (r - 1) := Nat.pow_pos (by decide)
            omega
          have hq2 : (N : Int) / (P : Int) = 0 := by rw [hNP, hq]; rfl
          clear hNP
          go_wp2_with fail
          have hr0 := HS.out.pos
          simp only at hr0
          go_loopg [4, 6] 20 (fun f v n wr => ∃ r' N' : Nat, v = .int .i64 r' ∧ n = .int .u64 N' ∧ RInv k r' N' ∧ 0 < r' ∧ r' ≤ 20 ∧ 20 < r' + f ∧ Hid (rsX k f r' N' = A) ∧ Hid (wr = w))
          case atStart => exact ⟨r, N, rfl, rfl, hi, hr0, h20, by omega, hlX, hw⟩
          case round =>
            clear hi hlX hw hq hq2 hN0 hN64 h20 c0 h
            obtain ⟨r', N', rfl, rfl, hi, hr1, h20, h21, hlX, hw⟩ := hrel
            have hlX0 := hlX.out
            clear hlX
            have hN64 := hi.up
            rw [HP.out] at hN64
            have hNP : (N' : Int) / (P : Int) = ((N' / P : Nat) : Int) := by simp
            by_cases hq : N' / P = 0
            · have hsm := hi.small k2 (by rw [HP.out]; exact hq)
              rw [HP.out] at hsm
              have hst := hi.stepX k2 hr1 (by rw [HP.out]; exact hq)
              have hq2 : (N' : Int) / (P : Int) = 0 := by rw [hNP, hq]; rfl
              cases gk with
              | zero => omega
              | succ f =>
                rw [rsX, HP.out, if_pos hq] at hlX0
                have HST := Lib.hid (And.intro hst hlX0)
                clear hst hlX0 hi hNP
                go_wp2
                go_roundg f
                case measure => omega
                case rel => exact ⟨r' + 1, N' * 10, rfl, by congr 1, HST.out.1, by omega, by omega, by omega, HST.out.2, hw⟩
            · have hq2 : ((N' : Int) / (P : Int) == 0) = false := by rw [hNP, beq_eq_false_iff_ne]; omega
              have hA1 : A = (r', N') := by
                rw [← hlX0]
                cases gk with
                | zero => rfl
                | succ f => rw [rsX, HP.out, if_neg hq]
              subst hA1
              clear hNP hlX0 hi hN64
              go_wp2
              go_meet
              exact ⟨rfl, rfl, hw.out⟩
        · have hq2 : ((N : Int) / (P : Int) == 0) = false := by rw [hNP, beq_eq_false_iff_ne]; omega
          have hA1 : A = (r, N) := by
            rw [← hlX.out, rsX, HP.out, if_neg hq]
          subst hA1
          clear hNP hlX hi hN64
          go_wp2
          go_meet
          exact ⟨rfl, rfl, hw.out⟩
      | succ m =>
        rw [rs1, HP.out] at hl0
        by_cases hq : N / P = 0
        · have hrn : r < nd := by omega
          rw [if_pos hq] at hl0
          have hst := hi.step1 HS.out k2 hrn (by rw [HP.out]; exact hq)
          have hsm := hi.small k2 (by rw [HP.out]; exact hq)
          rw [HP.out] at hsm
          have hq2 : (N : Int) / (P : Int) = 0 := by rw [hNP, hq]; rfl
          have hdr := HS.out.dig.2 r hrn
          simp only at hdr hst
          have cd := h.dig (i := r) (by omega)
          simp only at cd
          have hdv : ((d0 r).toNat : Int) = (dv d0 r : Int) + 48 := by unfold dv; omega
          have hdv9 : dv d0 r ≤ 9 := by unfold dv; omega
          obtain ⟨v, hv⟩ : ∃ v, dv d0 r = v := ⟨_, rfl⟩
          rw [hv] at hdv hdv9 hst hl0
          rw [hdv] at cd
          have HST := Lib.hid (And.intro hst hl0)
          clear hst hl0 hi hv hdv hdr hNP hN64
          go_wp2
          go_roundg m
          case measure => omega
          case rel =>
            exact ⟨r + 1, N * 10 + v, rfl, by congr 1; omega, by omega, HST.out.1, by omega, HST.out.2, h, hw⟩
        · rw [if_neg hq] at hl0
          have hq2 : ((N : Int) / (P : Int) == 0) = false := by rw [hNP, beq_eq_false_iff_ne]; omega
          subst hl0
          clear hNP hi hN64
          go_wp2
          go_meet
          exact ⟨rfl, rfl, hw.out⟩
  case rest =>
    obtain ⟨rfl, rfl, rfl⟩ := hcut
    rename_i K hK
    refine hK _ _ ?_
    clear hK hHA
    obtain ⟨a1, a2⟩ := A
    simp only at HR
    have hr1 := HE.out.pos
    have hr2 := HE.out.le
    have hr3 := HE.out.up
    simp only at hr1 hr2 hr3 ⊢
    rw [HP.out] at hr3
    have hW : WInv d0 nd k a1 0 d0 a2 := REnd.winv (s := ⟨d0, nd, dp, neg, tr⟩) HE.out
    have hwr : IntKind.u64.wrap (P : Int) = (P : Int) := wrapN _ (by omega)
    have c1 := h.hdp
    have f1 := h.fz 801
    simp only at c1
    have hd := h.setDp (dp - (a1 - 1)) (.int .i64 (dp - ((a1 : Int) - 1))) rfl
    have hB := (Below.refl b wc).setCell (p := ⟨b, 801, none⟩) (Nat.le_refl _) (.int .i64 (dp - ((a1 : Int) - 1)))
    clear h
    obtain ⟨Bv, hBv⟩ : ∃ Bv, rs3 k (nd - a1) d0 a1 0 a2 = Bv := ⟨_, rfl⟩
    rw [hBv] at HR
    obtain ⟨q, hq⟩ : ∃ q, dp - ((a1 : Int) - 1) = q := ⟨_, rfl⟩
    rw [hq] at hd hB HR
    go_wp2_with fail
    clear hq
    go_loopg [4, 5, 6] (nd - a1) (fun m v x n wr => ∃ (r x' N : Nat) (D : Nat → UInt8), v = .int .i64 r ∧ x = .int .i64 x' ∧ n = .int .u64 N ∧ r ≤ 800 ∧ m = nd - r ∧ WInv d0 nd k r x' D N ∧ Hid (rs3 k m D r x' N = Bv) ∧ DecAt wr b ⟨D, nd, q, neg, tr⟩ ∧ Below b wc wr)
    case atStart => exact ⟨a1, 0, a2, d0, rfl, rfl, rfl, by omega, rfl, hW, hBv, hd, hB⟩
    case round =>
      clear hd hB hBv hW hr1 hr2 hr3 c1 f1
      obtain ⟨r, x, N, D, rfl, rfl, rfl, hr, rfl, hi, hl, hd, hB⟩ := hrel
      have hl0 := hl.out
      clear hl
      have c0 := hd.hnd
      simp only at c0
      by_cases hrn : r < nd
      · have hN64 := hi.up
        rw [HP.out] at hN64
        have hst := WInv.step (s := ⟨d0, nd, dp, neg, tr⟩) HS.out hi hrn
        obtain ⟨m, hm⟩ : ∃ m, nd - r = m + 1 := ⟨nd - r - 1, by omega⟩
        rw [hm, rs3] at hl0
        rw [HP.out] at hl0 hst
        have hNP : (N : Int) / (P : Int) = ((N / P : Nat) : Int) := by simp
        have hNm := maskP N k (by omega) k2
        rw [HP.out] at hNm
        have q9 : N / P < 10 := by have := div_le9 hi.up; rw [HP.out] at this; exact this
        have t9 : N % P < P := Nat.mod_lt _ hP0
        obtain ⟨Q, hQ⟩ : ∃ Q, N / P = Q := ⟨_, rfl⟩
        obtain ⟨R, hR⟩ : ∃ R, N % P = R := ⟨_, rfl⟩
        rw [hQ] at hNP hl0 hst q9
        rw [hR] at hNm hl0 hst t9
        have hdr := HS.out.dig.2 r hrn
        simp only at hdr
        rw [← hi.orig r (Nat.le_refl _) hrn] at hdr
        have cd := hd.dig (i := r) (by omega)
        simp only at cd
        have hdv : ((D r).toNat : Int) = (dv D r : Int) + 48 := by unfold dv; omega
        have hdv9 : dv D r ≤ 9 := by unfold dv; omega
        obtain ⟨v, hv⟩ : ∃ v, dv D r = v := ⟨_, rfl⟩
        rw [hv] at hdv hdv9 hst hl0
        rw [hdv] at cd
        have hxr := hi.wr
        have cx := hd.dig (i := x) (by omega)
        have fx := hd.fz x
        have HST := Lib.hid (And.intro hst (And.intro hl0 hm))
        clear hst hl0 hi hv hdv hdr hN64 hm hQ hR
        have hrn' : (r : Int) < nd := by omega
        have hx8 : x < 800 := by omega
        have hx8' : (x : Int) < 800 := by omega
        have hr8 : r < 800 := by omega
        have hr8' : (r : Int) < 800 := by omega
        go_wp2
        go_roundg m
        case measure => have := HST.out.2.2; omega
        case rel =>
          have HS1 := HST.out.1
          have HS2 := HST.out.2.1
          have HS3 := HST.out.2.2
          rw [putD_lt' hx8] at HS1 HS2
          exact ⟨r + 1, x + 1, R * 10 + v, _, rfl, rfl, by congr 1; omega, by omega, by omega, HS1, HS2, hd.setDig hx8 (UInt8.ofNat (Q + 48)) _ (by congr 1; simp; omega), hB.setCell (Nat.le_refl _) _⟩
      · obtain ⟨m, hm⟩ : ∃ m, nd - r = m := ⟨_, rfl⟩
        rw [hm] at hl0
        have hm0 : m = 0 := by omega
        subst hm0
        have hB0 : Bv = (D, x, N) := by rw [← hl0]; rfl
        subst hB0
        simp only at HR
        have hT : TInv k (k + 1) x D N := by
          have hw := hi.wr
          exact ⟨hi.up, hi.first, by omega, ⟨Nat.le_refl _, by simp⟩, fun e => by omega, hi.dig, hi.lead⟩
        obtain ⟨Cv, hCv⟩ : ∃ Cv, rs4 k (k + 1) D tr x N = Cv := ⟨_, rfl⟩
        rw [hCv] at HR
        have hrn' : ¬ (r : Int) < nd := by omega
        clear hm hi hl0
        go_wp2_with fail
        go_loopg [5, 6] (k + 1) (fun f x n wr => ∃ (x' N : Nat) (D : Nat → UInt8) (T : Bool), x = .int .i64 x' ∧ n = .int .u64 N ∧ TInv k f x' D N ∧ Hid (rs4 k f D T x' N = Cv) ∧ DecAt wr b ⟨D, nd, q, neg, T⟩ ∧ Below b wc wr)
        case atStart => exact ⟨x, N, D, tr, rfl, rfl, hT, hCv, hd, hB⟩
        case round =>
          clear hT hCv hd hB c0 hrn' hrn
          obtain ⟨x, N, D, T, rfl, rfl, hi, hl, hd, hB⟩ := hrel
          have hl0 := hl.out
          clear hl
          have hx8 := hi.w8
          have hN64 := hi.up
          rw [HP.out] at hN64
          rcases Nat.eq_zero_or_pos N with hN0 | hN0
          · subst hN0
            have hC0 : Cv = (D, T, x) := by
              rw [← hl0]
              cases gk with
              | zero => rfl
              | succ f => rw [rs4, if_pos rfl]
            subst hC0
            simp only at HR
            have z0 : ((0 : Nat) : Int) = 0 := rfl
            rw [z0]
            clear z0 hi hl0
            have c0 := hd.hnd
            have f0 := hd.fz 800
            have hd2 := hd.setNd x (.int .i64 x) rfl
            have hB2 := hB.setCell (p := ⟨b, 800, none⟩) (Nat.le_refl _) (.int .i64 x)
            clear hd hB
            go_wp2_with fail
            refine (trim_any b _ _ hd2 (by simp only; omega)).mono ?_
            rintro e w2 ⟨rfl, hd3, hb3⟩
            go_wp2
            go_end0
            exact ⟨rfl, by rw [HR.out]; exact hd3, hB2.trans hb3⟩
          · cases gk with
            | zero => exact absurd (hi.fz rfl) (by omega)
            | succ f =>
              have hst := hi.step
              rw [rs4, if_neg (by omega)] at hl0
              have hNP : (N : Int) / (P : Int) = ((N / P : Nat) : Int) := by simp
              have hNm := maskP N k (by omega) k2
              rw [HP.out] at hNm hl0 hst
              have q9 : N / P < 10 := by have := div_le9 hi.up; rw [HP.out] at this; exact this
              have t9 : N % P < P := Nat.mod_lt _ hP0
              obtain ⟨Q, hQ⟩ : ∃ Q, N / P = Q := ⟨_, rfl⟩
              obtain ⟨R, hR⟩ : ∃ R, N % P = R := ⟨_, rfl⟩
              rw [hQ] at hNP hl0 hst q9
              rw [hR] at hNm hl0 hst t9
              have HST := Lib.hid (And.intro hst hl0)
              clear hst hl0 hi hN64 hQ hR HR
              have hNp : (0 : Int) < (N : Int) := by omega
              by_cases hx : x < 800
              · have hx8' : (x : Int) < 800 := by omega
                have cx := hd.dig (i := x) hx
                have fx := hd.fz x
                go_wp2
                go_roundg f
                case measure => omega
                case rel =>
                  have HS1 := HST.out.1
                  have HS2 := HST.out.2
                  rw [putD_lt' hx, if_pos hx] at HS1 HS2
                  rw [putT_lt' hx] at HS2
                  exact ⟨x + 1, R * 10, _, _, rfl, by congr 1, HS1, HS2, hd.setDig hx (UInt8.ofNat (Q + 48)) _ (by congr 1; simp; omega), hB.setCell (Nat.le_refl _) _⟩
              · have hx8' : ¬ (x : Int) < 800 := by omega
                rcases Nat.eq_zero_or_pos Q with hQ0 | hQ0
                · subst hQ0
                  have hQn : ¬ (0 : Int) < ((0 : Nat) : Int) := by omega
                  go_wp2
                  go_roundg f
                  case measure => omega
                  case rel =>
                    have HS1 := HST.out.1
                    have HS2 := HST.out.2
                    rw [putD_ge' hx, if_neg hx] at HS1 HS2
                    rw [putT_ge' hx, if_pos rfl] at HS2
                    exact ⟨x, R * 10, _, _, rfl, by congr 1, HS1, HS2, hd, hB⟩
                · have hQp : (0 : Int) < (Q : Int) := by omega
                  have ft := hd.fz 803
                  have ct := hd.htr
                  go_wp2
                  go_roundg f
                  case measure => omega
                  case rel =>
                    have HS1 := HST.out.1
                    have HS2 := HST.out.2
                    rw [putD_ge' hx, if_neg hx] at HS1 HS2
                    rw [putT_ge' hx, if_neg (by omega)] at HS2
                    exact ⟨x, R * 10, _, _, rfl, by congr 1, HS1, HS2, hd.setTr true _ rfl, hB.setCell (Nat.le_refl _) _⟩
end Go.Proofs.YtodihpaabkplhaaGreatDoor
