/- decimal's leftShift. -/
import Derived.Test.YtodihpaabkplhaaGreatDoorLsq
import Derived.Test.YtodihpaabkplhaaGreatDoorPre
import Derived.Deep.DeepCutAuto
import Derived.RegionTactic
import Derived.Lib.ItoaWalk
namespace Go.Proofs.YtodihpaabkplhaaGreatDoor
open Go.RowKit

theorem putD_lt {D : Nat → UInt8} {w m : Nat} (h : w < 800) : putD D w m = upd D w (UInt8.ofNat (m + 48)) := by unfold putD; rw [if_pos h]
theorem putD_ge {D : Nat → UInt8} {w m : Nat} (h : ¬ w < 800) : putD D w m = D := by unfold putD; rw [if_neg h]
theorem putT_lt {t : Bool} {w m : Nat} (h : w < 800) : putT t w m = t := by unfold putT; rw [if_pos h]
theorem putT_ge {t : Bool} {w m : Nat} (h : ¬ w < 800) : putT t w m = if m = 0 then t else true := by unfold putT; rw [if_neg h]

set_option maxRecDepth 100000 in
set_option maxHeartbeats 1600000 in
theorem leftShift_any (cb co b k : Nat) (s : Dec) (w : World) (h : DecAt w b s) (hs : Good s) (hT : Tabs cb co w) (k1 : 1 ≤ k) (k2 : k ≤ 60) (hp1 : -100000 ≤ s.dp) (hp2 : s.dp ≤ 100000) :
    Calls Tryz.prog 91 #[.pointer (some ⟨b, 0, none⟩), .int .u64 k] w fun e w' => e = .returned (.tuple #[]) ∧ DecAt w' b (leftD s k) ∧ Below b w w' := by
  obtain ⟨b1, b2, b3⟩ := left_bounds hs k1 k2
  have hck := cheat_ok ⟨k, by omega⟩
  obtain ⟨_, h6, h7, _, _, _⟩ := hck.2.2.2.1 k1
  clear hck
  simp only at h6 h7
  obtain ⟨e, he⟩ : ∃ e : Nat, cheatD k = (e : Int) := ⟨(cheatD k).toNat, by omega⟩
  have hδ : leftDelta s k = e - (if prefLess s.d s.nd 0 (cheatC k) then 1 else 0) := by unfold leftDelta; rw [he, Int.toNat_natCast]
  have c1 := hT.ch
  have c2 := hT.delta k (by omega)
  have c3 := hT.cut k (by omega)
  rw [he] at c2 h6 h7
  have h800 := hs.dig.1
  have c4 := h.hnd
  have HS := Lib.hid (And.intro hs (And.intro b2 b3))
  have HC := fun n => pref_any b 800 s (cheatC k) (w.drewN n) (h.drewN n) h800
  obtain ⟨C, hC⟩ : ∃ C, cheatC k = C := ⟨_, rfl⟩
  obtain ⟨less, hless⟩ : ∃ less, prefLess s.d s.nd 0 C = less := ⟨_, rfl⟩
  rw [hC] at HC c3 hδ
  rw [hless] at HC hδ
  clear hC hT hs b2 b3
  obtain ⟨δ, hδe⟩ : ∃ δ, leftDelta s k = δ := ⟨_, rfl⟩
  rw [hδe] at hδ b1 HS
  have HL : Hid (∀ d' t', (ls2 δ (ls1 k δ s.nd s.d s.tr 0).1 (ls1 k δ s.nd s.d s.tr 0).2.1 (ls1 k δ s.nd s.d s.tr 0).2.2) = (d', t') → leftD s k = trimD { d := d', nd := min (s.nd + δ) 800, dp := s.dp + δ, neg := s.neg, tr := t' }) := by
    intro d' t' hh
    unfold leftD
    simp only [hδe]
    rw [hh]
  clear hδe hless
  obtain ⟨nd, hnd⟩ : ∃ nd, s.nd = nd := ⟨_, rfl⟩
  rw [hnd] at c4 h800 HC
  have HN := Lib.hid hnd
  have n1 : (nd : Int) ≤ ((Tryz.prog.arrayLen 119 : Nat) : Int) := by
    have : Tryz.prog.arrayLen 119 = 800 := by kernel_rfl
    rw [this]; omega
  have n2 : (0 : Int) ≤ (nd : Int) := by omega
  have n3 : (nd : Int) ≤ 800 := by omega
  have n4 : (k : Int) < 61 := by omega
  have n5 : k < 61 := by omega
  clear hnd
  go_enter Tryz.func91, Tryz.ntmps91
  go_wp2_with fail
  go_quiet ((go_at_call 98; exact Calls.quiet_of ((HC _).mono fun _ _ h => ⟨h.2, h.1⟩)))
  go_upto_if 30 with fail
  go_cut [4] (fun v wx => v = .int .i64 (δ : Int) ∧ wx = w.drewN nq)
  case first =>
    cases less with
    | true =>
      rw [if_pos rfl] at hδ
      have e1 : (e : Int) - 1 = (δ : Int) := by omega
      clear hδ
      go_wp2
      go_meet
      exact ⟨by first | rfl | rw [e1], rfl⟩
    | false =>
      rw [if_neg (by decide)] at hδ
      have e1 : (e : Int) = (δ : Int) := by omega
      clear hδ
      go_wp2
      go_meet
      exact ⟨by first | rfl | rw [e1], rfl⟩
  case rest =>
    obtain ⟨rfl, rfl⟩ := hcut
    rename_i K hK
    refine hK _ _ ?_
    have hd := h.drewN nq
    clear h hδ c1 c2 c3 c4 HC hK n1
    obtain ⟨W, hW⟩ : ∃ W, w.drewN nq = W := ⟨_, rfl⟩
    have c4 := hd.hnd
    have hB : Below b w W := hW ▸ Below.drewN (Below.refl _ _) _
    rw [hW] at hd c4 ⊢
    rw [HN.out] at c4
    go_wp2_with fail
    obtain ⟨A, hA⟩ : ∃ A, ls1 k δ s.nd s.d s.tr 0 = A := ⟨_, rfl⟩
    rw [hA] at HL
    rw [HN.out] at hA
    obtain ⟨d0, nd, dp, neg, tr⟩ := s
    simp only at hA hp1 hp2 HN HL
    have hnd := HN.out
    subst hnd
    have hst : LInv ⟨d0, nd, dp, neg, tr⟩ k δ nd d0 0 := LInv.start _ HS.out.1 k δ
    clear c4
    go_loopg [5, 6, 7] nd (fun r i wi n wr => i = .int .i64 ((r : Int) - 1) ∧ wi = .int .i64 ((r : Int) + δ) ∧ ∃ D T N, n = .int .u64 ((N : Nat) : Int) ∧ DecAt wr b ⟨D, nd, dp, neg, T⟩ ∧ LInv ⟨d0, nd, dp, neg, tr⟩ k δ r D N ∧ Hid (ls1 k δ r D T N = A) ∧ Below b w wr)
    case atStart => exact ⟨rfl, rfl, _, _, 0, rfl, hd, hst, hA, hB⟩
    case round =>
      clear hd hst hA hB hW
      obtain ⟨rfl, rfl, D, T, N, rfl, hd, hi, hl, hB⟩ := hrel
      have hl0 := hl.out
      clear hl
      cases gk with
      | zero =>
        have hi2 := hi.fin HS.out.2.1 HS.out.2.2
        have hN60 : N ≤ 2 ^ 60 := Nat.le_trans hi.le (Nat.pow_le_pow_right (by decide) k2)
        have hnd8 : nd ≤ 800 := HS.out.1.dig.1
        clear hi
        obtain ⟨Bb, hBb⟩ : ∃ Bb, ls2 δ D T N = Bb := ⟨_, rfl⟩
        have HL2 : ∀ d' t', Bb = (d', t') → leftD ⟨d0, nd, dp, neg, tr⟩ k = trimD { d := d', nd := min (nd + δ) 800, dp := dp + δ, neg := neg, tr := t' } := by
          intro d' t' hh
          refine HL.out d' t' ?_
          rw [← hl0]
          show ls2 δ D T N = _
          rw [hBb, hh]
        have HL3 := Lib.hid HL2
        clear HL HL2 hl0
        have z1 : (((0 : Nat) : Int) - 1) = -1 := by omega
        have z2 : (((0 : Nat) : Int) + (δ : Int)) = (δ : Int) := by omega
        rw [z1, z2]
        clear z1 z2
        go_wp2_with fail
        go_loopg [6, 7] δ (fun x wi n wr => wi = .int .i64 (x : Int) ∧ x ≤ δ ∧ ∃ D T N, n = .int .u64 ((N : Nat) : Int) ∧ DecAt wr b ⟨D, nd, dp, neg, T⟩ ∧ LInv2 (min (nd + δ) 800) x D N ∧ N ≤ 2 ^ 60 ∧ Hid (ls2 x D T N = Bb) ∧ Below b w wr)
        case atStart => exact ⟨rfl, Nat.le_refl _, D, T, N, rfl, hd, hi2, hN60, hBb, hB⟩
        case round =>
          clear hd hi2 hBb hB hN60
          obtain ⟨rfl, hx, D, T, N, rfl, hd, hi, hN, hl, hB⟩ := hrel
          have hl0 := hl.out
          clear hl
          rcases Nat.eq_zero_or_pos N with hN0 | hN0
          · subst hN0
            have hB2 : Bb = (D, T) := by
              rw [← hl0]
              cases gk with
              | zero => rfl
              | succ x => rw [ls2, if_pos rfl]
            have hfin := HL3.out D T hB2
            have HF := Lib.hid hfin
            clear hfin hB2 hl0 HL3 hi hN hx
            have z0 : ((0 : Nat) : Int) = 0 := rfl
            rw [z0]
            clear z0
            have c0 := hd.hnd
            have c1 := hd.hdp
            have f0 := hd.fz 800
            have f1 := hd.fz 801
            simp only at c0 c1
            by_cases h8 : nd + δ < 800
            · have h8' : ¬ (800 : Int) ≤ (nd : Int) + δ := by omega
              have hd2 := (hd.setNd (nd + δ) (.int .i64 ((nd : Int) + δ)) (by congr 1)).setDp (dp + δ) (.int .i64 (dp + δ)) rfl
              have hB2 := (hB.setCell (p := ⟨b, 800, none⟩) (Nat.le_refl _) (.int .i64 ((nd : Int) + δ))).setCell (p := ⟨b, 801, none⟩) (Nat.le_refl _) (.int .i64 (dp + δ))
              clear hd hB
              go_wp2_with fail
              refine (trim_any b _ _ hd2 (by simp only; omega)).mono ?_
              rintro e w2 ⟨rfl, hd3, hb3⟩
              go_wp2
              go_end0
              refine ⟨rfl, ?_, hB2.trans hb3⟩
              rw [HF.out, show min (nd + δ) 800 = nd + δ by omega]
              exact hd3
            · have h8' : (800 : Int) ≤ (nd : Int) + δ := by omega
              have hd2 := ((hd.setNd (nd + δ) (.int .i64 ((nd : Int) + δ)) (by congr 1)).setNd 800 (.int .i64 800) rfl).setDp (dp + δ) (.int .i64 (dp + δ)) rfl
              have hB2 := ((hB.setCell (p := ⟨b, 800, none⟩) (Nat.le_refl _) (.int .i64 ((nd : Int) + δ))).setCell (p := ⟨b, 800, none⟩) (Nat.le_refl _) (.int .i64 800)).setCell (p := ⟨b, 801, none⟩) (Nat.le_refl _) (.int .i64 (dp + δ))
              clear hd hB
              go_wp2_with fail
              refine (trim_any b _ _ hd2 (by simp only; omega)).mono ?_
              rintro e w2 ⟨rfl, hd3, hb3⟩
              go_wp2
              go_end0
              refine ⟨rfl, ?_, hB2.trans hb3⟩
              rw [HF.out, show min (nd + δ) 800 = 800 by omega]
              exact hd3
          · cases gk with
            | zero => exact absurd hi.up (by simp; omega)
            | succ x =>
              have hst := hi.step (by omega)
              have hN64 : N ≤ 1152921504606846976 := by
                have : 2 ^ 60 = 1152921504606846976 := by decide
                omega
              rw [ls2, if_neg (by omega)] at hl0
              have HST := Lib.hid (And.intro hst (And.intro hl0 hN))
              clear hst hl0 hi hN HL3
              have m10 : N % 10 < 10 := Nat.mod_lt _ (by decide)
              have hNp : (0 : Int) < (N : Int) := by omega
              have z1 : ((x + 1 : Nat) : Int) = (x : Int) + 1 := by omega
              rw [z1]
              clear z1
              have hx20 : x < 20 := by omega
              have hw : x < 800 := by omega
              have hw1 : (x : Int) < 800 := by omega
              have fr := hd.fz x
              have cw := hd.dig (i := x) hw
              go_wp2
              go_roundg x
              case measure => omega
              case rel =>
                have HS1 := HST.out.1
                have HS2 := HST.out.2.1
                have HS3 := HST.out.2.2
                rw [putD_lt hw] at HS1 HS2
                rw [putT_lt hw] at HS2
                exact ⟨rfl, by omega, _, _, N / 10, by congr 1, hd.setDig hw (UInt8.ofNat (N % 10 + 48)) _ (by congr 1; simp; omega), HS1, by omega, HS2, hB.setCell (Nat.le_refl _) _⟩
      | succ r =>
        have hN := hi.le
        have hstep := hi.step HS.out.1 HS.out.2.1
        have hr : r + 1 ≤ nd := hi.rle
        have hr8 : r < 800 := by have := HS.out.1.dig.1; simp only at this; omega
        have hr8' : (r : Int) < 800 := by omega
        have hdr := (HS.out.1.dig.2 r hr)
        rw [← hi.orig r (by omega)] at hdr
        have cd := hd.dig (i := r) (by omega)
        simp only at cd
        obtain ⟨v, hv⟩ : ∃ v : Nat, dv D r = v := ⟨_, rfl⟩
        have hv2 : ((D r).toNat : Int) = v + 48 := by unfold dv at hv; omega
        have hv9 : v ≤ 9 := by unfold dv at hv; omega
        rw [hv2] at cd
        have hk60 : 2 ^ k ≤ 2 ^ 60 := Nat.pow_le_pow_right (by decide) k2
        have hG9 : v * 2 ^ k ≤ 9 * 2 ^ k := Nat.mul_le_mul_right _ hv9
        have hG1 : ((v : Int)) * 2 ^ k = ((v * 2 ^ k : Nat) : Int) := by simp
        rw [hv] at hstep
        rw [ls1, hv] at hl0
        obtain ⟨G, hG⟩ : ∃ G, v * 2 ^ k = G := ⟨_, rfl⟩
        rw [hG] at hstep hl0 hG9 hG1
        have hG64 : G ≤ 10376293541461622784 := by
          have : 9 * 2 ^ 60 = 10376293541461622784 := by decide
          omega
        have hN64 : N ≤ 1152921504606846976 := by
          have : 2 ^ 60 = 1152921504606846976 := by decide
          omega
        obtain ⟨M, hM⟩ : ∃ M, N + G = M := ⟨_, rfl⟩
        have hM2 : (N : Int) + (G : Int) = (M : Int) := by omega
        have hM64 : M ≤ 11529215046068469760 := by omega
        rw [hM] at hstep hl0
        have HST := Lib.hid (And.intro hstep hl0)
        clear hstep hl0 hN hi hdr hv hv2 hk60 hG9 hG hM
        have w1 : IntKind.u64.wrap ((v : Int) * 2 ^ k) = (G : Int) := by rw [hG1]; exact wrapN _ (by omega)
        clear hG1
        have z1 : (((r + 1 : Nat) : Int) - 1) = (r : Int) := by omega
        have z2 : (((r + 1 : Nat) : Int) + (δ : Int)) = (r : Int) + δ + 1 := by omega
        rw [z1, z2]
        clear z1 z2
        have m10 : M % 10 < 10 := Nat.mod_lt _ (by decide)
        by_cases hw : r + δ < 800
        · have hw1 : ((r : Int) + (δ : Int)) < 800 := by omega
          have fr := hd.fz (r + δ)
          have cw := hd.dig (i := r + δ) hw
          go_wp2
          go_roundg r
          case measure => omega
          case rel =>
            have HS1 := HST.out.1
            have HS2 := HST.out.2
            rw [putD_lt hw] at HS1 HS2
            rw [putT_lt hw] at HS2
            exact ⟨rfl, rfl, _, _, M / 10, by congr 1, hd.setDig hw (UInt8.ofNat (M % 10 + 48)) _ (by congr 1; simp; omega), HS1, HS2, hB.setCell (Nat.le_refl _) _⟩
        · have hw1 : ¬ ((r : Int) + (δ : Int)) < 800 := by omega
          by_cases hm : M % 10 = 0
          · have hm1 : (M : Int) - 10 * ((M : Int) / 10) = 0 := by omega
            go_wp2
            go_roundg r
            case measure => omega
            case rel =>
              have HS1 := HST.out.1
              have HS2 := HST.out.2
              rw [putD_ge hw] at HS1 HS2
              rw [putT_ge hw, if_pos hm] at HS2
              exact ⟨rfl, rfl, _, _, M / 10, by congr 1, hd, HS1, HS2, hB⟩
          · have hm1 : ((M : Int) - 10 * ((M : Int) / 10) != 0) = true := bne_iff_ne.2 (by omega)
            have ft := hd.fz 803
            have ct := hd.htr
            go_wp2
            go_roundg r
            case measure => omega
            case rel =>
              have HS1 := HST.out.1
              have HS2 := HST.out.2
              rw [putD_ge hw] at HS1 HS2
              rw [putT_ge hw, if_neg hm] at HS2
              exact ⟨rfl, rfl, _, _, M / 10, by congr 1, hd.setTr true _ rfl, HS1, HS2, hB.setCell (Nat.le_refl _) _⟩
end Go.Proofs.YtodihpaabkplhaaGreatDoor
