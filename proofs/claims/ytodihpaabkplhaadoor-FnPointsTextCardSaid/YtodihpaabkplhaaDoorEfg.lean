/- fmtEFG for 'f': the digits laid out as a decimal. -/
import Derived.Test.YtodihpaabkplhaaDoorEfb
namespace Go.Proofs.YtodihpaabkplhaaDoor
open Go.RowKit

set_option maxRecDepth 100000 in
set_option maxHeartbeats 4000000 in
theorem efg_any (B b N cap nd : Nat) (T : TypeId) (D : Nat → UInt8) (neg sh : Bool) (s dst : Value) (l0 : List UInt8) (dp prec : Int) (w : World)
    (hb : Bytes w B dst l0) (hl : l0.length ≤ 1000) (hc : 0 < nd ∨ 0 < dp → s = .slice (some ⟨b, 0, none⟩) N cap ∧ Cells w b T N (byteC D) ∧ dst.ownBlock ≠ some b) (hB : B ≤ w.heap.size)
    (hN : nd ≤ N) (hN1 : N ≤ cap) (hcap : cap ≤ 1000) (d0 : -10000 ≤ dp) (d1 : dp ≤ 10000) (p0 : -1 ≤ prec) (p1 : prec ≤ 10000) :
    Calls Tryd.prog 69 #[dst, .bool neg, s, .int .i64 dp, .int .i64 nd, .int .i64 prec, .int .u8 102, .bool sh] w fun e w' =>
      ∃ v', e = .returned v' ∧ Bytes w' B v' (l0 ++ efgF neg D nd dp prec) ∧ Grew B w dst w' v' := by
  have HC := Lib.hid hc
  clear hc
  go_enter Tryd.func69, Tryd.ntmps69
  go_upto_if 178 with fail
  go_cut [0] (fun v wx => Bytes wx B v (l0 ++ signF neg) ∧ Grew B w dst wx v)
  case first =>
    cases neg with
    | true =>
      go_wp2_with (at_builtin; refine wpList_push _ _ rfl rfl B dst l0 45 _ _ (by rfl) (by rfl) (by rfl) hb (by omega) hB ?_)
      intro v1 w1 hb1 hg1 _
      go_wp2
      go_meet
      exact ⟨hb1, hg1⟩
    | false =>
      go_wp2
      go_meet
      exact ⟨by simpa [signF] using hb, Grew.refl _ _ _⟩
  case rest =>
    obtain ⟨hb1, hg1⟩ := hcut
    have hc1 : 0 < nd ∨ 0 < dp → s = .slice (some ⟨b, 0, none⟩) N cap ∧ Cells wc b T N (byteC D) ∧ u0.ownBlock ≠ some b := fun h => by
      obtain ⟨e, c, n⟩ := HC.out h
      exact ⟨e, hg1.cells c n, (hg1.block b c.lt n).2⟩
    have HC1 := Lib.hid hc1
    clear hc1
    have hs1 : (signF neg).length ≤ 1 := by cases neg <;> simp [signF]
    obtain ⟨l1, hl1⟩ : ∃ l1, l0 ++ signF neg = l1 := ⟨_, rfl⟩
    have hl1' : l1.length ≤ 1001 := by rw [← hl1, List.length_append]; omega
    rw [hl1] at hb1
    have HL1 := Lib.hid hl1
    clear hl1 hb HC
    have hB1 : B ≤ wc.heap.size := Nat.le_trans hB hg1.below.size
    have HG1 := Lib.hid hg1
    obtain ⟨v0, hv0⟩ : ∃ v0, v0 = u0 := ⟨_, rfl⟩
    subst hv0
    obtain ⟨wb, hwb⟩ : ∃ wb, wb = wc := ⟨_, rfl⟩
    subst hwb
    clear hg1
    obtain ⟨t, ht⟩ : ∃ t, decide (0 < dp) = t := ⟨_, rfl⟩
    go_upto_if 183 with fail
    go_cut [0] (fun v wx => Bytes wx B v (l1 ++ intF D nd dp) ∧ Grew B wb v0 wx v)
    case first =>
      cases t with
      | true =>
        have hdp : 0 < dp := of_decide_eq_true ht
        clear ht
        obtain ⟨hse, hc1, hne1⟩ := HC1.out (Or.inr hdp)
        subst hse
        obtain ⟨q, rfl⟩ : ∃ q : Nat, dp = q := ⟨dp.toNat, by omega⟩
        obtain ⟨M, hMM⟩ : ∃ M : Nat, min (nd : Int) (q : Int) = (M : Int) := ⟨min nd q, by omega⟩
        have hM : M ≤ nd := by omega
        have hMq : M ≤ q := by omega
        have HMN : Hid (min nd q = M) := by show _ = _; omega
        go_wp2
        go_loopw [0, 191] (fun v i wr => ∃ k : Nat, k ≤ M ∧ i = .int .i64 k ∧ Bytes wr B v (withF l1 D k) ∧ Grew B wb v0 wr v) (fun _ i _ => M - (intOf i).toNat)
        case atStart => exact ⟨0, Nat.zero_le _, rfl, by rw [withF_zero]; exact hb1, Grew.refl _ _ _⟩
        case round =>
          obtain ⟨k, hk, rfl, hbr, hgr⟩ := hrel
          have hBr : B ≤ wr.heap.size := Nat.le_trans hB1 hgr.below.size
          have hlen : (withF l1 D k).length ≤ 1000000000000 := by rw [withF_length]; omega
          by_cases hlt : k < M
          · have hck := (hgr.cells hc1 hne1).cell (i := k) (by omega)
            unfold byteC at hck
            go_wp2_with (at_builtin; refine wpList_push _ _ rfl rfl B _ _ (D k) _ _ (by rfl) (by rfl) (by rfl) hbr hlen hBr ?_)
            intro v2 w2 hb2 hg2 _
            have hb3 : Bytes w2 B v2 (withF l1 D (k + 1)) := by rw [withF_succ]; exact hb2
            have hg3 := hgr.trans hg2
            clear hb2 hg2 hbr hgr hck hlen hBr
            go_wp2
            go_roundw
            case rel => exact ⟨k + 1, by omega, by go_num, hb3, hg3⟩
            case measure => simp [intOf]; omega
          · obtain rfl : M = k := by omega
            clear hk hlt
            obtain ⟨l2, hl2⟩ : ∃ l2, withF l1 D M = l2 := ⟨_, rfl⟩
            have hl2' : l2.length ≤ 1000000000 := by rw [← hl2, withF_length]; omega
            rw [hl2] at hbr
            have HL2 := Lib.hid hl2
            clear hl2 hlen
            go_wp2
            go_loopw [0, 203] (fun v i wx => ∃ j : Nat, j ≤ q - M ∧ i = .int .i64 j ∧ Bytes wx B v (withX l2 48 j) ∧ Grew B wb v0 wx v) (fun _ i _ => q - M - (intOf i).toNat)
            case atStart => exact ⟨0, Nat.zero_le _, rfl, by rw [withX_zero]; exact hbr, hgr⟩
            case round =>
              obtain ⟨j, hj, rfl, hbx, hgx⟩ := hrel
              have hBx : B ≤ wr.heap.size := Nat.le_trans hB1 hgx.below.size
              have hlenx : (withX l2 48 j).length ≤ 1000000000000 := by rw [withX_length]; omega
              by_cases hltj : j < q - M
              · go_wp2_with (at_builtin; refine wpList_push _ _ rfl rfl B _ _ 48 _ _ (by rfl) (by rfl) (by rfl) hbx hlenx hBx ?_)
                intro v2 w2 hb2 hg2 _
                have hb3 : Bytes w2 B v2 (withX l2 48 (j + 1)) := by rw [withX_succ]; exact hb2
                have hg3 := hgx.trans hg2
                clear hb2 hg2 hbx hgx hlenx hBx
                go_wp2
                go_roundw
                case rel => exact ⟨j + 1, by omega, by go_num, hb3, hg3⟩
                case measure => simp [intOf]; omega
              · have hfin : withX l2 48 j = l1 ++ intF D nd q := by
                  unfold intF
                  rw [if_pos hdp, ← HL2.out, show min nd (q : Int).toNat = M by have := HMN.out; omega, show (q : Int).toNat - M = j by omega]
                  unfold withX withF
                  rw [List.append_assoc]
                have HF := Lib.hid hfin
                clear hfin
                go_wp2
                go_meet
                exact ⟨by rw [← HF.out]; exact hbx, hgx⟩
      | false =>
        have hdp : ¬ 0 < dp := of_decide_eq_false ht
        clear ht
        have hlen : l1.length ≤ 1000000000000 := by omega
        go_wp2_with (at_builtin; refine wpList_push _ _ rfl rfl B _ _ 48 _ _ (by rfl) (by rfl) (by rfl) hb1 hlen hB1 ?_)
        intro v2 w2 hb2 hg2 _
        have hfin : intF D nd dp = [48] := by unfold intF; rw [if_neg (by omega)]
        have HF := Lib.hid hfin
        clear hfin
        go_wp2
        go_meet
        exact ⟨by rw [HF.out]; exact hb2, hg2⟩
    case rest =>
      obtain ⟨hb2, hg2⟩ := hcut
      rename_i K2 hK2
      have hlen2 : (l1 ++ intF D nd dp).length ≤ 100000 := by
        rw [List.length_append]
        have : (intF D nd dp).length ≤ 10001 := by
          unfold intF
          split
          · rw [List.length_append, List.length_map, List.length_range, List.length_replicate]; omega
          · simp
        omega
      refine hK2 _ _ ?_
      refine efg_tail B b N cap nd T D neg sh s (l1 ++ intF D nd dp) dp prec _ _ _ _ _ _ _ _ _ _ _ _ _ _ _ _ _ _ _ _ _ _ _ _ _ _ _ _ _ _ _ _ _ _ _ _ _ _ _ _ _ _ _ _ _ _ _ _ _ _ _ _ _ _ _ _ _ _ _ _ _ _ _ _ _ _ _ _ _ _ _ _ _ _ _ _ _ _ _ _ _ _ _ _ _ _ _ _ _ _ _ _ _ _ _ _ _ _ _ _ _ _ _ _ _ _ _ _ _ _ _ _ _ _ _ _ _ _ _ _ _ _ _ _ _ _ _ _ _ _ _ _ _ _ _ _ _ _ _ _ _ _ _ _ _ _ _ _ _ _ _ _ _ _ _ _ _ _ _ _ _ _ _ _ _ _ _ _ _ _ _ _ _ _ _ _ _ _ _ _ _ _ _ _ _ _ _ _ _ _ _ _ _ _ _ _ _ _ _ _ _ _ _ _ _ _ _ _ _ _ _ _ _ _ _ _ _ _ _ _ _ _ _ _ _ _ _ _ _ _ _ _ _ _ _ _ _ _ _ _ _ _ _ _ _ _ _ _ _ _ _ _ _ _ _ _ _ _ _ _ _ _ _ _ _ _ _ _ hb2 hlen2 (fun h => by obtain ⟨e, c, n⟩ := HC1.out h; exact ⟨e, hg2.cells c n, (hg2.block b c.lt n).2⟩) (Nat.le_trans hB1 hg2.below.size) hN hN1 hcap d0 d1 p0 p1 ?_
      intro v' w' h1 h2
      refine ⟨v', rfl, ?_, (HG1.out.trans hg2).trans h2⟩
      unfold efgF
      rw [← List.append_assoc, ← List.append_assoc, HL1.out]
      exact h1
end Go.Proofs.YtodihpaabkplhaaDoor
