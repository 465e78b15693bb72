/- ftoa64: the shortest decimals. -/
import Derived.Test.YtodihpaabkplhaaDoorFta
import Derived.Lib.MinMax
import Derived.Deep.RegionWith
import Derived.BigRegion
namespace Go.Proofs.YtodihpaabkplhaaDoor
open Go.RowKit

def shD (x : Nat) : Nat := (shortF (mmF x) (xpF x)).1.toNat
def shP (x : Nat) : Int := (shortF (mmF x) (xpF x)).2
def shDig (x : Nat) : Nat → UInt8 := digD (shD x) (nDig (shD x)) zeroB
def shN (x : Nat) : Nat := trimN (shDig x) (nDig (shD x))
def shE (x : Nat) : Int := nDig (shD x) + shP x
def shText (x : Nat) : List UInt8 := efgF (negF x) (shDig x) (shN x) (shE x) (max ((shN x : Int) - shE x) 0)

theorem shD_cast (x : Nat) : (shortF (mmF x) (xpF x)).1 = ((shD x : Nat) : Int) := by
  have := (shortF_fst (mmF x) (xpF x)).1
  unfold shD
  omega
theorem shD_lt (x : Nat) : shD x < 18446744073709551616 := by
  have := (shortF_fst (mmF x) (xpF x)).2
  unfold shD
  omega
set_option maxRecDepth 100000 in
set_option maxHeartbeats 1600000 in
theorem ftoa_short (cb co B x : Nat) (dst : Value) (w : World) (T : Tabs cb co w) (hb : Bytes w B dst []) (hB : B ≤ w.heap.size) (hx : x < 18446744073709551616) (he : eF x ≠ 2047) (hm : mantF x ≠ 0) :
    Calls Tryd.prog 60 #[dst, .float .f64 x, .int .u8 102, .int .i64 (-1)] w fun e w' => ∃ v', e = .returned v' ∧ Bytes w' B v' (shText x) ∧ Below B w w' := by
  have hL := lenF_facts x hm
  have hXP := xpF_facts x he hm
  have hMM := u64_mmF x
  have hmm : mmF x = IntKind.u64.wrap ((mantF x : Int) * 2 ^ (64 - lenF x)) := rfl
  have hxp : xpF x = expF x - ((64 - lenF x : Nat) : Int) - 52 := rfl
  have hlx : lenF x = Lib.bitLen (mantF x) := rfl
  have f1 : (x : Int) / 4503599627370496 = ((x / 4503599627370496 : Nat) : Int) := by omega
  obtain ⟨X, hX⟩ : ∃ X, x / 4503599627370496 = X := ⟨_, rfl⟩
  have hX4 : X < 4096 := by omega
  have f2 := bits_e X hX4
  have f3 := bits_m x hx
  have f4 : ((x : Int) / 9223372036854775808 != 0) = negF x := rfl
  have hE : X % 2048 = eF x := by rw [← hX]; rfl
  have hM : x % 4503599627370496 = m0F x := rfl
  have hM52 : m0F x < 4503599627370496 := by unfold m0F; omega
  rw [hX] at f1
  rw [hE] at f2
  rw [hM] at f3
  have hE2 : eF x < 2048 := by unfold eF; omega
  have hMd : mantF x = if eF x = 0 then m0F x else m0F x + 4503599627370496 := rfl
  have hXd : expF x = (if eF x = 0 then 1 else (eF x : Int)) + -1023 := rfl
  obtain ⟨neg, hn⟩ : ∃ neg, negF x = neg := ⟨_, rfl⟩
  obtain ⟨E, hEe⟩ : ∃ E, eF x = E := ⟨_, rfl⟩
  obtain ⟨m0, hm0⟩ : ∃ m0, m0F x = m0 := ⟨_, rfl⟩
  obtain ⟨M, hMe⟩ : ∃ M, mantF x = M := ⟨_, rfl⟩
  obtain ⟨ex, hex⟩ : ∃ ex, expF x = ex := ⟨_, rfl⟩
  rw [hn] at f4
  rw [hEe] at f2 hE2 hMd hXd he
  rw [hm0] at f3 hM52 hMd
  rw [hMe] at hMd hm hmm hlx
  rw [hex] at hXd hxp
  have e1 : ((E : Int) == 2047) = false := by rw [beq_eq_false_iff_ne]; omega
  have fo := bits_o m0 hM52
  have hME := Lib.hid (And.intro hMd (And.intro hXd (And.intro hE2 he)))
  clear hMd hXd hE hM hX he
  have hM0 : ((M : Int) == 0) = false := by rw [beq_eq_false_iff_ne]; omega
  go_enter Tryd.func60, Tryd.ntmps60
  go_wp2_with fail
  go_quiet (fail)
  have hb2 : Bytes (w.drewN nq) B dst [] := hb
  have T2 : Tabs cb co (w.drewN nq) := T.below (Below.drewN (Below.refl _ _) _)
  obtain ⟨W, hW⟩ : ∃ W, w.drewN nq = W := ⟨_, rfl⟩
  have hB2 : Below B w W := hW ▸ Below.drewN (Below.refl _ _) _
  rw [hW] at hb2 T2 ⊢
  have hB3 : B ≤ W.heap.size := Nat.le_trans hB hB2.size
  clear hW hb hB T
  go_upto_if 78 with fail
  go_cut [14, 15] (fun e m wx => (∃ e0 : Int, e = .int .i64 e0 ∧ e0 + -1023 = ex ∧ 1 ≤ e0 ∧ e0 ≤ 2046) ∧ m = .int .u64 M ∧ wx = W)
  case first =>
    by_cases h0 : E = 0
    · have h1 : ((E : Int) == 0) = true := by rw [beq_iff_eq]; omega
      subst h0
      have h2 := hME.out.1
      have h3 := hME.out.2.1
      rw [if_pos rfl] at h2 h3
      clear fo f1 f2 f3 f4 hME
      go_wp2
      go_meet
      exact ⟨⟨1, rfl, by omega, by omega, by omega⟩, by rw [h2], rfl⟩
    · have h1 : ((E : Int) == 0) = false := by rw [beq_eq_false_iff_ne]; omega
      have h2 := hME.out.1
      have h3 := hME.out.2.1
      have h4 := hME.out.2.2.1
      have h5 := hME.out.2.2.2
      rw [if_neg h0] at h2 h3
      clear f1 f2 f3 f4 hME
      go_wp2
      go_meet
      exact ⟨⟨E, rfl, by omega, by omega, by omega⟩, by rw [h2]; first | rfl | (congr 1), rfl⟩
  case rest =>
    obtain ⟨⟨e0, rfl, he0, e00, e01⟩, rfl, rfl⟩ := hcut
    have hme0 := he0
    rename_i K hK
    refine hK _ _ ?_
    clear hK f1 f2 f3 f4 fo e1
    obtain ⟨L, hLe⟩ : ∃ L, lenF x = L := ⟨_, rfl⟩
    rw [hLe] at hL hmm hxp hlx
    obtain ⟨S, hS⟩ : ∃ S, 64 - L = S := ⟨_, rfl⟩
    rw [hS] at hmm hxp
    have hSi : (64 : Int) - (L : Int) = (S : Int) := by omega
    have hM53 : M < 9007199254740992 := by
      have h2 := hME.out.1
      split at h2 <;> omega
    go_upto_region 34 with fail
    obtain ⟨g, hg⟩ : ∃ g, wc.heap.size = g := ⟨_, rfl⟩
    rw [hg]
    have hc0 := Cells.new wc 103 (Array.replicate 32 (.int .u8 0)) (byteC zeroB) (fill_rep 32 (.int .u8 0))
    rw [hg] at hc0
    have hBa : Below g wc (wc.alloc (.cells (Array.replicate 32 (.int .u8 0)) 103)) := (Below.refl _ _).alloc (by omega) _
    obtain ⟨W1, hW1⟩ : ∃ W1, wc.alloc (.cells (Array.replicate 32 (.int .u8 0)) 103) = W1 := ⟨_, rfl⟩
    rw [hW1] at hc0 hBa
    change Code.wp _ _ _ _ (wc.alloc (.cells (Array.replicate 32 (.int .u8 0)) 103))
    rw [hW1]
    have hb3 : Bytes W1 B dst [] := hb2.below hBa (by omega)
    have T3 : Tabs cb co W1 := T2.below (hg ▸ hBa)
    have hdst : dst.ownBlock ≠ some g := fun h => by have := hb2.lt h; omega
    have hlen := len64_any (M : Int) W1 ⟨by omega, by omega⟩
    rw [Int.toNat_natCast, ← hlx] at hlen
    have HLL := Lib.hid (And.intro hlx (And.intro hS (And.intro hme0 hMM)))
    clear hlx hS hW1 hME hm hM0
    go_wp2_with fail
    refine hlen.mono ?_
    rintro e w1 ⟨rfl, rfl⟩
    clear hlen
    go_wp2_with fail
    rw [← hmm, ← hxp]
    refine (short_any cb co (mmF x) (xpF x) W1 T3 hMM hXP.1 hXP.2).mono ?_
    rintro e w2 ⟨rfl, hb4⟩
    rw [shD_cast, show (shortF (mmF x) (xpF x)).2 = shP x from rfl]
    have hu := shD_lt x
    have hp := shortF_snd (mmF x) (xpF x) hXP.1 hXP.2
    rw [show (shortF (mmF x) (xpF x)).2 = shP x from rfl] at hp
    have hc1 := hc0.below hb4 hc0.lt
    have hb5 : Bytes w2 B dst [] := hb3.below hb4 (Nat.le_refl _)
    have T4 : Tabs cb co w2 := T3.below hb4
    have hB4 : Below B w w2 := (hB2.trans (hBa.mono (hg ▸ hB3))).trans (hb4.mono (by have := hc0.lt; omega))
    clear hmm hxp hc0 hb3 T3 hb4 hBa
    obtain ⟨u, hue⟩ : ∃ u, shD x = u := ⟨_, rfl⟩
    obtain ⟨p, hpe⟩ : ∃ p, shP x = p := ⟨_, rfl⟩
    rw [hue] at hu ⊢
    rw [hpe] at hp ⊢
    have hUP := Lib.hid (And.intro hue hpe)
    clear hue hpe
    have hD : nDig u ≤ 20 := nDig_le u hu
    have hQ : shE x = (nDig u : Int) + p ∧ shDig x = digD u (nDig u) zeroB ∧ shN x = trimN (digD u (nDig u) zeroB) (nDig u) := by
      unfold shN shE shDig
      rw [hUP.out.1, hUP.out.2]
      exact ⟨rfl, rfl, rfl⟩
    have HQ := Lib.hid hQ
    clear hQ
    go_upto_region 38 with fail
    go_cut [22, 23] (fun a c wx => a = .int .i64 (shE x) ∧ c = .int .i64 (shN x) ∧ Cells wx g 103 32 (byteC (shDig x)) ∧ Below g w2 wx)
    case first =>
      go_region_with (first
        | (go_at_call 73; refine (numDigits_any cb co u hu _ (T4.below (Below.drewN (Below.refl _ _) 1))).mono ?_; rintro e w' ⟨rfl, rfl⟩)
        | (go_at_call 72; refine (setDigits_any g 32 32 (nDig u) u p 103 zeroB _ (hc1.drewN 1) (by omega) (by omega) (by omega) (by omega) (nDig_lt u) hu (by omega) (by omega)).mono ?_; rintro e w' ⟨rfl, hc2, hb6⟩))
      all_goals (go_wp2_with fail; go_meet; refine ⟨by rw [HQ.out.1], by rw [HQ.out.2.2], by rw [HQ.out.2.1]; exact hc2, (Below.drewN (Below.refl _ _) 1).trans hb6⟩)
    case rest =>
      obtain ⟨rfl, rfl, hc2, hb6⟩ := hcut
      rename_i K2 hK2
      refine hK2 _ _ ?_
      clear hK2 hc1
      have hb7 : Bytes wc B dst [] := by
        refine ⟨hb5.1, ?_⟩
        rcases hb5.2 with ⟨e, n⟩ | ⟨g', cap, cur, e, hBg, hg', h4⟩
        · exact Or.inl ⟨e, n⟩
        · have hlt : g' < g := by
            have := hb2.lt (c := g') (by rw [e]; rfl)
            omega
          exact Or.inr ⟨g', cap, cur, e, hBg, by rw [hb6.block g' hlt]; exact hg', h4⟩
      have hBw : Below B w wc := hB4.trans (hb6.mono (by omega))
      have hsN : shN x ≤ 20 := by
        rw [HQ.out.2.2]
        exact Nat.le_trans (trimN_le _ _) hD
      have hsE : shE x = (nDig u : Int) + p := HQ.out.1
      have hfin : shText x = efgF neg (shDig x) (shN x) (shE x) (max ((shN x : Int) - shE x) 0) := by unfold shText; rw [hn]
      have HF := Lib.hid hfin
      clear hfin HQ hUP HLL hb5 hb2 T2 T4 hB4 hB2 hb6
      obtain ⟨N, hN⟩ : ∃ N, shN x = N := ⟨_, rfl⟩
      obtain ⟨F, hF⟩ : ∃ F, shE x = F := ⟨_, rfl⟩
      obtain ⟨D, hDD⟩ : ∃ D, shDig x = D := ⟨_, rfl⟩
      rw [hN, hF, hDD] at HF
      rw [hN] at hsN ⊢
      rw [hF] at hsE ⊢
      rw [hDD] at hc2
      have hF1 : -400 ≤ F := by omega
      have hF2 : F ≤ 420 := by omega
      clear hsE hN hF hDD
      go_wp2_with fail
      have hBs : B ≤ wc.heap.size := Nat.le_trans (by omega) (Nat.le_of_lt hc2.lt)
      refine (efg_any B g 32 32 N 103 D neg true _ dst [] F (max ((N : Int) - F) 0) wc hb7 (by simp) (fun _ => ⟨rfl, hc2, hdst⟩) hBs (by omega) (by omega) (by omega) (by omega) (by omega) (by omega) (by omega)).mono ?_
      rintro e w3 ⟨v', rfl, hb8, hg8⟩
      rw [List.nil_append, ← HF.out] at hb8
      go_wp2
      go_ret
      exact ⟨v', rfl, hb8, hBw.trans hg8.below⟩
end Go.Proofs.YtodihpaabkplhaaDoor
