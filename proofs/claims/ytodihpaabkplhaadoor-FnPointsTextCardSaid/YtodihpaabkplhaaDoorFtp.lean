/- ftoa64: with a number of digits. -/
import Derived.Test.YtodihpaabkplhaaDoorFtx
import Derived.Test.YtodihpaabkplhaaDoorFtd
namespace Go.Proofs.YtodihpaabkplhaaDoor
open Go.RowKit

def precText (x : Nat) (prec : Int) : List UInt8 := if digsF x prec ≤ 18 then fxText x prec else deText x prec

set_option maxRecDepth 100000 in
set_option maxHeartbeats 1600000 in
theorem ftoa_prec (cb co B x : Nat) (dst : Value) (prec : Int) (w : World) (T : Tabs cb co w) (hb : Bytes w B dst []) (hB : B ≤ w.heap.size) (hx : x < 18446744073709551616) (he : eF x ≠ 2047) (hm : mantF x ≠ 0) (p0 : 0 ≤ prec) (p1 : prec ≤ 20) :
    Calls Tryd.prog 60 #[dst, .float .f64 x, .int .u8 102, .int .i64 prec] w fun e w' => ∃ v', e = .returned v' ∧ Bytes w' B v' (precText x prec) ∧ Below B w w' := by
  have HE := Lib.hid (And.intro he hm)
  have hL := lenF_facts x hm
  have hXP := xpF_facts x he hm
  have hMM := u64_mmF x
  have hmm : mmF x = IntKind.u64.wrap ((mantF x : Int) * 2 ^ (64 - lenF x)) := rfl
  have hxp : xpF x = expF x - ((64 - lenF x : Nat) : Int) - 52 := rfl
  have hlx : lenF x = Lib.bitLen (mantF x) := rfl
  have f1 : (x : Int) / 4503599627370496 = ((x / 4503599627370496 : Nat) : Int) := by omega
  obtain ⟨X, hX⟩ : ∃ X, x / 4503599627370496 = X := ⟨_, rfl⟩
  have hX4 : X < 4096 := by omega
  have f2 := bits_e X hX4
  have f3 := bits_m x hx
  have f4 : ((x : Int) / 9223372036854775808 != 0) = negF x := rfl
  have hE : X % 2048 = eF x := by rw [← hX]; rfl
  have hM : x % 4503599627370496 = m0F x := rfl
  have hM52 : m0F x < 4503599627370496 := by unfold m0F; omega
  rw [hX] at f1
  rw [hE] at f2
  rw [hM] at f3
  have hE2 : eF x < 2048 := by unfold eF; omega
  have hMd : mantF x = if eF x = 0 then m0F x else m0F x + 4503599627370496 := rfl
  have hXd : expF x = (if eF x = 0 then 1 else (eF x : Int)) + -1023 := rfl
  obtain ⟨neg, hn⟩ : ∃ neg, negF x = neg := ⟨_, rfl⟩
  obtain ⟨E, hEe⟩ : ∃ E, eF x = E := ⟨_, rfl⟩
  obtain ⟨m0, hm0⟩ : ∃ m0, m0F x = m0 := ⟨_, rfl⟩
  obtain ⟨M, hMe⟩ : ∃ M, mantF x = M := ⟨_, rfl⟩
  obtain ⟨ex, hex⟩ : ∃ ex, expF x = ex := ⟨_, rfl⟩
  rw [hn] at f4
  rw [hEe] at f2 hE2 hMd hXd he
  rw [hm0] at f3 hM52 hMd
  rw [hMe] at hMd hm hmm hlx
  rw [hex] at hXd hxp
  have e1 : ((E : Int) == 2047) = false := by rw [beq_eq_false_iff_ne]; omega
  have fo := bits_o m0 hM52
  have hME := Lib.hid (And.intro hMd (And.intro hXd (And.intro hE2 he)))
  clear hMd hXd hE hM hX he
  have hM0 : ((M : Int) == 0) = false := by rw [beq_eq_false_iff_ne]; omega
  go_enter Tryd.func60, Tryd.ntmps60
  go_wp2_with fail
  go_quiet (fail)
  have hb2 : Bytes (w.drewN nq) B dst [] := hb
  have T2 : Tabs cb co (w.drewN nq) := T.below (Below.drewN (Below.refl _ _) _)
  obtain ⟨W, hW⟩ : ∃ W, w.drewN nq = W := ⟨_, rfl⟩
  have hB2 : Below B w W := hW ▸ Below.drewN (Below.refl _ _) _
  rw [hW] at hb2 T2 ⊢
  have hB3 : B ≤ W.heap.size := Nat.le_trans hB hB2.size
  clear hW hb hB T
  go_upto_if 78 with fail
  go_cut [14, 15] (fun e m wx => (∃ e0 : Int, e = .int .i64 e0 ∧ e0 + -1023 = ex ∧ 1 ≤ e0 ∧ e0 ≤ 2046) ∧ m = .int .u64 M ∧ wx = W)
  case first =>
    by_cases h0 : E = 0
    · have h1 : ((E : Int) == 0) = true := by rw [beq_iff_eq]; omega
      subst h0
      have h2 := hME.out.1
      have h3 := hME.out.2.1
      rw [if_pos rfl] at h2 h3
      clear fo f1 f2 f3 f4 hME
      go_wp2
      go_meet
      exact ⟨⟨1, rfl, by omega, by omega, by omega⟩, by rw [h2], rfl⟩
    · have h1 : ((E : Int) == 0) = false := by rw [beq_eq_false_iff_ne]; omega
      have h2 := hME.out.1
      have h3 := hME.out.2.1
      have h4 := hME.out.2.2.1
      have h5 := hME.out.2.2.2
      rw [if_neg h0] at h2 h3
      clear f1 f2 f3 f4 hME
      go_wp2
      go_meet
      exact ⟨⟨E, rfl, by omega, by omega, by omega⟩, by rw [h2]; first | rfl | (congr 1), rfl⟩
  case rest =>
    obtain ⟨⟨e0, rfl, he0, e00, e01⟩, rfl, rfl⟩ := hcut
    have hme0 := he0
    rename_i K hK
    refine hK _ _ ?_
    clear hK f1 f2 f3 f4 fo e1
    obtain ⟨L, hLe⟩ : ∃ L, lenF x = L := ⟨_, rfl⟩
    rw [hLe] at hL hmm hxp hlx
    obtain ⟨S, hS⟩ : ∃ S, 64 - L = S := ⟨_, rfl⟩
    rw [hS] at hmm hxp
    have hSi : (64 : Int) - (L : Int) = (S : Int) := by omega
    have hM53 : M < 9007199254740992 := by
      have h2 := hME.out.1
      split at h2 <;> omega
    have hM0 : ((M : Int) == 0) = false := by rw [beq_eq_false_iff_ne]; omega
    have hop := T2.opt
    have hdg : digsF x prec = if 0 ≤ ex then 1 + (1 + ex) * 78913 / 262144 + prec else 1 + prec - -ex * 78913 / 262144 := by unfold digsF; rw [hex]
    obtain ⟨dg, hdge⟩ : ∃ dg, digsF x prec = dg := ⟨_, rfl⟩
    rw [hdge] at hdg
    have hp9 : ¬ prec < 0 := by omega
    go_upto_block 2 with fail
    go_cut [3, 24] (fun pr v wx => pr = .int .i64 prec ∧ v = .int .i64 dg ∧ wx = wc)
    case first =>
      by_cases h0 : 0 ≤ ex
      · rw [if_pos h0] at hdg
        have H := Lib.hid hdg
        clear hdg
        have hl := log10Pow2_any (1 + ex) wc (by omega) (by omega)
        go_wp2_with fail
        refine hl.mono ?_
        rintro e w' ⟨rfl, rfl⟩
        clear hl
        go_wp2_with fail
        go_meet
        exact ⟨rfl, by rw [H.out], rfl⟩
      · rw [if_neg h0] at hdg
        have H := Lib.hid hdg
        clear hdg
        have hl := log10Pow2_any (-ex) wc (by omega) (by omega)
        go_wp2_with fail
        refine hl.mono ?_
        rintro e w' ⟨rfl, rfl⟩
        clear hl
        go_wp2_with fail
        go_meet
        exact ⟨rfl, by rw [H.out], rfl⟩
    case rest =>
      obtain ⟨rfl, rfl, rfl⟩ := hcut
      rename_i K2 hK2
      refine hK2 _ _ ?_
      clear hK2 hdg hop
      by_cases h18 : dg ≤ 18
      · refine fx_tail cb co B x M neg dst prec dg ex _ _ _ _ _ _ _ _ _ _ _ _ _ _ _ _ _ _ _ _ _ _ _ _ _ _ _ _ _ _ _ _ _ _ _ _ _ _ _ _ _ _ _ _ _ _ _ _ _ _ _ _ _ _ _ _ _ _ _ _ _ _ _ _ _ _ _ _ _ _ _ _ _ _ _ _ _ _ _ _ _ _ _ _ _ _ _ _ _ _ _ _ _ _ _ _ _ _ _ _ _ _ _ _ _ _ _ _ _ _ _ _ _ _ _ _ _ _ _ _ _ _ _ _ _ _ _ _ _ _ _ _ _ _ _ _ _ _ _ _ _ _ _ _ _ _ _ _ _ _ _ _ _ _ _ _ _ _ _ _ _ _ _ _ _ _ _ _ _ _ _ _ _ _ _ _ _ _ _ _ _ _ _ _ _ _ _ _ _ _ _ _ _ _ _ _ _ _ _ _ _ _ _ _ _ _ _ _ _ _ _ _ _ _ _ _ _ _ _ _ _ _ _ _ _ _ _ _ _ _ _ _ _ _ _ _ _ _ _ _ _ _ _ _ _ _ _ _ _ _ _ _ _ _ _ _ _ _ _ _ _ _ _ _ _ _ _ _ _ _ _ _ _ _ _ _ _ _ _ _ _ _ _ _ _ _ _ _ _ _ _ T2 hb2 hB3 HE.out.1 HE.out.2 hn hMe hex hdge h18 p0 p1 ?_
        intro v' w' h1 h2
        have hpt : precText x prec = fxText x prec := by unfold precText; rw [if_pos (by omega)]
        exact ⟨v', rfl, by rw [hpt]; exact h1, hB2.trans h2⟩
      · go_upto_if 204 with fail
        go_step
        go_step
        go_step
        go_step
        refine de_tail cb co B x M neg dst prec ex _ _ _ _ _ _ _ _ _ _ _ _ _ _ _ _ _ _ _ _ _ _ _ _ _ _ _ _ _ _ _ _ _ _ _ _ _ _ _ _ _ _ _ _ _ _ _ _ _ _ _ _ _ _ _ _ _ _ _ _ _ _ _ _ _ _ _ _ _ _ _ _ _ _ _ _ _ _ _ _ _ _ _ _ _ _ _ _ _ _ _ _ _ _ _ _ _ _ _ _ _ _ _ _ _ _ _ _ _ _ _ _ _ _ _ _ _ _ _ _ _ _ _ _ _ _ _ _ _ _ _ _ _ _ _ _ _ _ _ _ _ _ _ _ _ _ _ _ _ _ _ _ _ _ _ _ _ _ _ _ _ _ _ _ _ _ _ _ _ _ _ _ _ _ _ _ _ _ _ _ _ _ _ _ _ _ _ _ _ _ _ _ _ _ _ _ _ _ _ _ _ _ _ _ _ _ _ _ _ _ _ _ _ _ _ _ _ _ _ _ _ _ _ _ _ _ _ _ _ _ _ _ _ _ _ _ _ _ _ _ _ _ _ _ _ _ _ _ _ _ _ _ _ _ _ _ _ _ _ _ _ _ _ _ _ _ _ _ _ _ _ _ _ _ _ _ _ _ _ _ _ _ _ _ _ _ _ _ _ _ _ T2 hb2 hB3 HE.out.1 HE.out.2 hn hMe hex p0 p1 ?_
        intro v' w' h1 h2
        have hpt : precText x prec = deText x prec := by unfold precText; rw [if_neg (by omega)]
        exact ⟨v', rfl, by rw [hpt]; exact h1, hB2.trans h2⟩
end Go.Proofs.YtodihpaabkplhaaDoor
