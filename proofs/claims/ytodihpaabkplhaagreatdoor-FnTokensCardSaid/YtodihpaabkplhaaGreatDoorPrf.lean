/- readFloat: its digits, and what comes behind them. readFloat of a text of digits, points, signs and e: it ends, and what it hands back hangs on the text alone. -/
import Derived.Test.YtodihpaabkplhaaGreatDoorPrx

namespace Go.Proofs.YtodihpaabkplhaaGreatDoor
open Go.RowKit

noncomputable def rfMain : Code := (Tryz.f52.body.bind (seqAt 23)).getD .skip

set_option maxRecDepth 100000 in
set_option maxHeartbeats 4000000 in
theorem rf_main (S : ByteArray) (hS : Numeric S) (neg : Bool) (i0 n : Nat) (hn : i0 + n ≤ S.size) (hgo : ∀ j, j < n → ¬ rStop (rsAt S i0 j) (ch S (i0 + j)))
    (hst : i0 + n = S.size ∨ rStop (rsAt S i0 n) (ch S (i0 + n))) (r : RF) (hr : RRest S neg (rsAt S i0 n) (i0 + n) r)
    (w : World) (post : Ending → World → Prop) (u1 u18 u19 u20 u21 u22 u23 u24 u25 u26 u27 u28 u29 u30 u31 u32 u33 u34 u35 u36 u37 u38 u39 u40 u41 u42 u43 u44 u45 u46 u47 u48 u49 u50 u51 u52 u53 u54 u55 u56 u57 u58 u59 u60 u61 u62 u63 u64 u65 u66 u67 u68 u69 u70 u71 u72 u73 u74 u75 u76 u77 u78 u79 u80 u81 u82 u83 u84 u85 u86 u87 u88 u89 u90 u91 u92 u93 u94 u95 u96 u97 u98 u99 u100 u101 u102 u103 u104 u105 u106 u107 u108 u109 u110 u111 u112 u113 u114 u115 u116 u117 u118 u119 u120 u121 u122 u123 u124 u125 u126 u127 u128 u129 u130 u131 u132 u133 u134 u135 u136 u137 u138 u139 u140 u141 u142 u143 u144 u145 u146 u147 u148 u149 u150 u151 u152 u153 u154 u155 u156 u157 u158 u159 u160 u161 u162 u163 u164 u165 u166 u167 u168 u169 u170 u171 u172 u173 u174 u175 u176 u177 u178 u179 u180 u181 u182 u183 u184 u185 u186 u187 u188 u189 u190 u191 u192 u193 u194 u195 u196 u197 u198 u199 u200 u201 u202 u203 u204 u205 u206 u207 u208 u209 u210 u211 u212 u213 u214 u215 u216 u217 u218 u219 u220 u221 u222 u223 u224 u225 u226 u227 u228 u229 u230 u231 u232 u233 u234 u235 u236 u237 u238 u239 u240 u241 u242 u243 u244 u245 u246 u247 u248 u249 u250 u251 u252 : Value)
    (hpost : post (.returned r.val) w) :
    Code.wp Tryz.prog rfMain (bodyPost Tryz.prog Tryz.f52 post) ⟨#[.string S, u1, .int .u64 0, .int .i64 0, .bool neg, .bool false, .bool false, .int .i64 (i0 : Int), .bool false, .bool false, .int .u64 10, .int .i64 19, .int .u8 101, .bool false, .bool false, .int .i64 0, .int .i64 0, .int .i64 0, u18, u19, u20, u21, u22, u23, u24, u25, u26, u27, u28, u29, u30, u31, u32, u33, u34, u35, u36, u37, u38, u39, u40, u41, u42, u43, u44, u45, u46, u47, u48, u49, u50, u51, u52, u53, u54, u55, u56, u57, u58, u59, u60, u61, u62, u63, u64, u65, u66, u67, u68, u69, u70, u71, u72, u73, u74, u75, u76, u77, u78, u79, u80, u81, u82, u83, u84, u85, u86, u87, u88, u89, u90, u91, u92, u93, u94, u95, u96, u97, u98, u99, u100, u101, u102, u103, u104, u105, u106, u107, u108, u109, u110, u111, u112, u113, u114, u115, u116, u117, u118, u119, u120, u121, u122, u123, u124, u125, u126, u127, u128, u129, u130, u131, u132, u133, u134, u135, u136, u137, u138, u139, u140, u141, u142, u143, u144, u145, u146, u147, u148, u149, u150, u151, u152, u153, u154, u155, u156, u157, u158, u159, u160, u161, u162, u163, u164, u165, u166, u167, u168, u169, u170, u171, u172, u173, u174, u175, u176, u177, u178, u179, u180, u181, u182, u183, u184, u185, u186, u187, u188, u189, u190, u191, u192, u193, u194, u195, u196, u197, u198, u199, u200, u201, u202, u203, u204, u205, u206, u207, u208, u209, u210, u211, u212, u213, u214, u215, u216, u217, u218, u219, u220, u221, u222, u223, u224, u225, u226, u227, u228, u229, u230, u231, u232, u233, u234, u235, u236, u237, u238, u239, u240, u241, u242, u243, u244, u245, u246, u247, u248, u249, u250, u251, u252], []⟩ w := by
  have HGO := Lib.hid hgo
  have HST := Lib.hid hst
  have HR := Lib.hid hr
  have HNUM := Lib.hid hS
  have HPOST := Lib.hid hpost
  have hsz := hS.1
  clear hgo hst hr hS hpost
  conv => arg 2; whnf
  conv => arg 4; dsimp only
  obtain ⟨wc, hwc⟩ : ∃ wc, wc = w := ⟨_, rfl⟩
  subst hwc
  go_upto_block 1 with fail
  obtain ⟨st, hST1⟩ : ∃ st, rsAt S i0 n = st := ⟨_, rfl⟩
  obtain ⟨p, hp⟩ : ∃ p, i0 + n = p := ⟨_, rfl⟩
  have HP := Lib.hid hp
  have HR1 := HR.out
  rw [hST1, hp] at HR1
  have HR2 := Lib.hid HR1
  clear HR HR1
  go_cut [2, 5, 7, 9, 13, 14, 15, 16, 17] (fun vm vt vi vu vdot vdig vnd vnm vdp wx => vm = .int .u64 (st.m : Int) ∧ vt = .bool st.tr ∧ vi = .int .i64 (p : Int) ∧ vu = .bool false ∧ vdot = .bool st.dot ∧ vdig = .bool st.dig ∧ vnd = .int .i64 (st.nd : Int) ∧ vnm = .int .i64 (st.nm : Int) ∧ vdp = .int .i64 st.dp ∧ wx = wc)
  case first =>
    have HS1 := Lib.hid hST1
    clear hST1 hp HR2
    go_wp2_with fail
    go_loopg [2, 5, 7, 9, 13, 14, 15, 16, 17] n (fun k vm vt vi vu vdot vdig vnd vnm vdp wr => ∃ (j : Nat) (s : RS), k + j = n ∧ Hid (rsAt S i0 j = s) ∧ vm = .int .u64 (s.m : Int) ∧ vt = .bool s.tr ∧ vi = .int .i64 ((i0 + j : Nat) : Int) ∧ vu = .bool false ∧ vdot = .bool s.dot ∧ vdig = .bool s.dig ∧ vnd = .int .i64 (s.nd : Int) ∧ vnm = .int .i64 (s.nm : Int) ∧ vdp = .int .i64 s.dp ∧ wr = wc)
    case atStart => exact ⟨0, RS.init, rfl, rfl, rfl, rfl, rfl, rfl, rfl, rfl, rfl, rfl, rfl, rfl⟩
    case round =>
      obtain ⟨j, s, hkj, hs, rfl, rfl, rfl, rfl, rfl, rfl, rfl, rfl, rfl, rfl⟩ := hrel
      have hok := rsAt_ok S i0 n HGO.out j (by omega)
      rw [hs.out] at hok
      obtain ⟨dot, dig, tr, nd, nm, dp, m⟩ := s
      have hm19 : nm < 19 → m < 1000000000000000000 := fun h => hok.m19 h
      obtain ⟨o1, o2, o3, o4, o5, _⟩ := hok
      simp only at o1 o2 o3 o4 o5 hm19 ⊢
      cases gk with
      | zero =>
        have hj : j = n := by omega
        have h1 := hs.out
        rw [hj, HS1.out] at h1
        subst h1
        subst hj
        rcases Nat.lt_or_ge (i0 + j) S.size with hlt | hge
        · have hstop := HST.out
          have hy := ch_eq S (i0 + j) hlt
          have hyn := HNUM.out.2 (i0 + j) hlt
          obtain ⟨y, hY⟩ : ∃ y, ch S (i0 + j) = y := ⟨_, rfl⟩
          rw [HS1.out, hY] at hstop
          rw [hY] at hy hyn
          have hyi : ((S[i0 + j]'hlt).toNat : Int) = y := by omega
          have hpj := HP.out
          subst hpj
          have hyn2 := hyn
          unfold numN digN at hyn2
          rcases hstop with hstop | ⟨hd, hdt⟩
          · omega
          unfold digN at hd
          by_cases h46 : y = 46
          · have e1 : dot = true := hdt h46
            subst e1 h46
            clear hd hdt hyn hyn2 hy hY
            go_wp2_with fail
            go_meet
            exact ⟨rfl, rfl, rfl, rfl, rfl, rfl, rfl, rfl, rfl, rfl⟩
          · have h95 : ((y : Int) == 95) = false := by rw [beq_eq_false_iff_ne]; omega
            have h46' : ((y : Int) == 46) = false := by rw [beq_eq_false_iff_ne]; omega
            have hyc : (y : Int) < 48 ∨ 57 < (y : Int) := by omega
            clear hd hdt hyn hyn2 hy hY h46
            rcases hyc with hyc | hyc
            · go_wp2_with fail
              go_meet
              exact ⟨rfl, rfl, rfl, rfl, rfl, rfl, rfl, rfl, rfl, rfl⟩
            · go_wp2_with fail
              go_meet
              exact ⟨rfl, rfl, rfl, rfl, rfl, rfl, rfl, rfl, rfl, rfl⟩
        · have hlt' : ¬ ((i0 + j : Nat) : Int) < (S.size : Int) := by omega
          have hpj := HP.out
          subst hpj
          go_wp2_with fail
          go_meet
          exact ⟨rfl, rfl, rfl, rfl, rfl, rfl, rfl, rfl, rfl, rfl⟩
      | succ k =>
        have hlt : i0 + j < S.size := by omega
        have hgo := HGO.out j (by omega)
        have hnext : rsAt S i0 (j + 1) = (⟨dot, dig, tr, nd, nm, dp, m⟩ : RS).step (ch S (i0 + j)) := by rw [← hs.out]; rfl
        rw [hs.out] at hgo
        have hy := ch_eq S (i0 + j) hlt
        obtain ⟨y, hY⟩ : ∃ y, ch S (i0 + j) = y := ⟨_, rfl⟩
        rw [hY] at hy hgo hnext
        have hyi : ((S[i0 + j]'hlt).toNat : Int) = y := by omega
        have hij : ((i0 + j : Nat) : Int) + 1 = ((i0 + (j + 1) : Nat) : Int) := by omega
        have hlt' : ((i0 + j : Nat) : Int) < (S.size : Int) := by omega
        unfold rStop digN at hgo
        by_cases h46 : y = 46
        · have e1 : dot = false := by
            cases dot with
            | false => rfl
            | true => exact absurd ⟨by omega, fun _ => rfl⟩ hgo
          subst e1 h46
          have HN1 := Lib.hid hnext
          clear hnext hgo hy hY hs
          go_wp2_with fail
          go_roundg k
          case measure => omega
          case rel => exact ⟨j + 1, _, by omega, HN1.out, rfl, rfl, by first | rfl | (congr 1; omega), rfl, rfl, rfl, rfl, rfl, rfl, rfl⟩
        · have hdg : 48 ≤ y ∧ y ≤ 57 := Classical.byContradiction fun h => hgo ⟨h, fun e => absurd e h46⟩
          have h95 : ((y : Int) == 95) = false := by rw [beq_eq_false_iff_ne]; omega
          have h46' : ((y : Int) == 46) = false := by rw [beq_eq_false_iff_ne]; omega
          have hy1 : (48 : Int) ≤ y := by omega
          have hy2 : (y : Int) ≤ 57 := by omega
          by_cases h0c : y = 48 ∧ nd = 0
          · obtain ⟨rfl, rfl⟩ := h0c
            have HN1 := Lib.hid hnext
            clear hnext hgo hy hY hs h46 hdg
            go_wp2_with fail
            go_roundg k
            case measure => omega
            case rel => exact ⟨j + 1, _, by omega, HN1.out, rfl, rfl, by first | rfl | (congr 1; omega), rfl, rfl, rfl, rfl, rfl, rfl, rfl⟩
          · by_cases hnm : nm < 19
            · have hnm' : (nm : Int) < 19 := by omega
              have hmm := hm19 hnm
              have hz : ((y : Int) == 48) = false ∨ ((y : Int) == 48) = true ∧ ((nd : Int) == 0) = false := by
                simp only [beq_eq_false_iff_ne, beq_iff_eq]
                omega
              have hst : (⟨dot, dig, tr, nd, nm, dp, m⟩ : RS).step y = ⟨dot, true, tr, nd + 1, nm + 1, dp, m * 10 + (y - 48)⟩ := by
                unfold RS.step
                rw [if_neg h46, if_neg h0c, if_pos hnm]
              rw [hst] at hnext
              have hmi : (m : Int) * 10 + ((y : Int) - 48) = ((m * 10 + (y - 48) : Nat) : Int) := by omega
              have HN1 := Lib.hid hnext
              clear hnext hgo hy hY hs h46 hdg h0c hst
              rcases hz with hz | ⟨hz, hz2⟩
              · go_wp2_with fail
                go_roundg k
                case measure => omega
                case rel => exact ⟨j + 1, _, by omega, HN1.out, by first | rfl | (congr 1; omega), rfl, by first | rfl | (congr 1; omega), rfl, rfl, rfl, rfl, rfl, rfl, rfl⟩
              · go_wp2_with fail
                go_roundg k
                case measure => omega
                case rel => exact ⟨j + 1, _, by omega, HN1.out, by first | rfl | (congr 1; omega), rfl, by first | rfl | (congr 1; omega), rfl, rfl, rfl, rfl, rfl, rfl, rfl⟩
            · have hnm' : ¬ (nm : Int) < 19 := by omega
              have hnd0 : ((nd : Int) == 0) = false := by rw [beq_eq_false_iff_ne]; omega
              have hst : (⟨dot, dig, tr, nd, nm, dp, m⟩ : RS).step y = ⟨dot, true, if y = 48 then tr else true, nd + 1, nm, dp, m⟩ := by
                unfold RS.step
                rw [if_neg h46, if_neg h0c, if_neg hnm]
              rw [hst] at hnext
              clear hst
              by_cases h48 : y = 48
              · rw [if_pos h48] at hnext
                have HN1 := Lib.hid hnext
                have h48' : ((y : Int) == 48) = true := by rw [beq_iff_eq]; omega
                have h48n : ((y : Int) != 48) = false := by rw [bne, h48']; rfl
                clear hnext hgo hy hY hs h46 hdg h0c h48
                go_wp2_with fail
                go_roundg k
                case measure => omega
                case rel => exact ⟨j + 1, _, by omega, HN1.out, rfl, rfl, by first | rfl | (congr 1; omega), rfl, rfl, rfl, rfl, rfl, rfl, rfl⟩
              · rw [if_neg h48] at hnext
                have HN1 := Lib.hid hnext
                have h48' : ((y : Int) == 48) = false := by rw [beq_eq_false_iff_ne]; omega
                have h48n : ((y : Int) != 48) = true := by rw [bne, h48']; rfl
                clear hnext hgo hy hY hs h46 hdg h0c h48
                go_wp2_with fail
                go_roundg k
                case measure => omega
                case rel => exact ⟨j + 1, _, by omega, HN1.out, rfl, rfl, by first | rfl | (congr 1; omega), rfl, rfl, rfl, rfl, rfl, rfl, rfl⟩
  case rest =>
    obtain ⟨rfl, rfl, rfl, rfl, rfl, rfl, rfl, rfl, rfl, rfl⟩ := hcut
    rename_i K hK
    refine hK _ _ ?_
    have hok := rsAt_ok S i0 n HGO.out n (Nat.le_refl _)
    rw [hST1] at hok
    have hp2 := HP.out
    refine rf_rest S HNUM.out neg st p n (by omega) hok (by omega) r HR2.out _ _ _ _ _ _ _ _ _ _ _ _ _ _ _ _ _ _ _ _ _ _ _ _ _ _ _ _ _ _ _ _ _ _ _ _ _ _ _ _ _ _ _ _ _ _ _ _ _ _ _ _ _ _ _ _ _ _ _ _ _ _ _ _ _ _ _ _ _ _ _ _ _ _ _ _ _ _ _ _ _ _ _ _ _ _ _ _ _ _ _ _ _ _ _ _ _ _ _ _ _ _ _ _ _ _ _ _ _ _ _ _ _ _ _ _ _ _ _ _ _ _ _ _ _ _ _ _ _ _ _ _ _ _ _ _ _ _ _ _ _ _ _ _ _ _ _ _ _ _ _ _ _ _ _ _ _ _ _ _ _ _ _ _ _ _ _ _ _ _ _ _ _ _ _ _ _ _ _ _ _ _ _ _ _ _ _ _ _ _ _ _ _ _ _ _ _ _ _ _ _ _ _ _ _ _ _ _ _ _ _ _ _ _ _ _ _ _ _ _ _ _ _ _ _ _ _ _ _ _ _ _ _ _ _ _ _ _ HPOST.out
end Go.Proofs.YtodihpaabkplhaaGreatDoor

namespace Go.Proofs.YtodihpaabkplhaaGreatDoor
open Go.RowKit

theorem noGoto_body {P : Program} {fn : Func} {R : Ending → World → Prop} (e : Exit) (a : Act) (w : World) (h : bodyPost P fn R e a w) : Exit.noGoto (bodyPost P fn R) e a w := by
  cases e <;> exact h

set_option maxRecDepth 100000 in
set_option maxHeartbeats 4000000 in
theorem readFloat_walk (S : ByteArray) (hS : Numeric S) (h0 : 0 < S.size) (n : Nat) (hn : sgnI (ch S 0) 0 + n ≤ S.size)
    (hgo : ∀ j, j < n → ¬ rStop (rsAt S (sgnI (ch S 0) 0) j) (ch S (sgnI (ch S 0) 0 + j)))
    (hst : sgnI (ch S 0) 0 + n = S.size ∨ rStop (rsAt S (sgnI (ch S 0) 0) n) (ch S (sgnI (ch S 0) 0 + n)))
    (r : RF) (hr : RRest S (sgnB (ch S 0)) (rsAt S (sgnI (ch S 0) 0) n) (sgnI (ch S 0) 0 + n) r) : ReadsAs S r := by
  have hsz := hS.1
  have hx := ch_eq S 0 h0
  have hsI := (sgnI_le (ch S 0) 0).2
  obtain ⟨x, hX⟩ : ∃ x, ch S 0 = x := ⟨_, rfl⟩
  obtain ⟨i0, hI⟩ : ∃ i0, sgnI (ch S 0) 0 = i0 := ⟨_, rfl⟩
  obtain ⟨neg, hN⟩ : ∃ neg, sgnB (ch S 0) = neg := ⟨_, rfl⟩
  rw [hI] at hn hgo hst hr hsI
  rw [hN] at hr
  rw [hX] at hx hI hN
  have hxi : ((S[0]'h0).toNat : Int) = x := by omega
  have HGO := Lib.hid hgo
  have HST := Lib.hid hst
  have HR := Lib.hid hr
  have HNUM := Lib.hid hS
  have hemp : ¬ S = ByteArray.empty := fun e => by rw [e] at h0; exact absurd h0 (by decide)
  have hsg : (x = 43 ∧ i0 = 1 ∧ neg = false) ∨ (x = 45 ∧ i0 = 1 ∧ neg = true) ∨ (((x : Int) == 43) = false ∧ ((x : Int) == 45) = false ∧ i0 = 0 ∧ neg = false) := by
    subst hI hN
    unfold sgnI sgnB
    by_cases h1 : x = 43
    · exact Or.inl ⟨h1, by rw [if_pos (by omega)], decide_eq_false (by omega)⟩
    · by_cases h2 : x = 45
      · exact Or.inr (Or.inl ⟨h2, by rw [if_pos (by omega)], decide_eq_true h2⟩)
      · refine Or.inr (Or.inr ⟨?_, ?_, by rw [if_neg (by omega)], decide_eq_false h2⟩)
        · rw [beq_eq_false_iff_ne]; omega
        · rw [beq_eq_false_iff_ne]; omega
  have HNN := Lib.hid hn
  clear hgo hst hr hS hI hN hX hx hn
  have hox : ¬ (i0 : Int) + 2 < (S.size : Int) ∨ ∃ h2 : i0 + 2 < S.size, ∃ y : Nat, ((S[i0]'(by omega)).toNat : Int) = y ∧ (((y : Int) == 48) = false ∨ y = 48 ∧ ∃ z l : Nat, ((S[i0 + 1]'(by omega)).toNat : Int) = z ∧ (∀ w, Calls Tryz.prog 73 #[.int .u8 z] w fun e w' => e = .returned (.int .u8 (l : Int)) ∧ w' = w) ∧ ((l : Int) == 120) = false) := by
    by_cases h2 : i0 + 2 < S.size
    · refine Or.inr ⟨h2, ch S i0, by have := ch_eq S i0 (by omega); omega, ?_⟩
      by_cases h48 : ch S i0 = 48
      · refine Or.inr ⟨h48, ch S (i0 + 1), if ch S (i0 + 1) = 69 then 101 else ch S (i0 + 1), by have := ch_eq S (i0 + 1) (by omega); omega, fun w => lower_num _ w (HNUM.out.2 (i0 + 1) (by omega)), ?_⟩
        have hzn := HNUM.out.2 (i0 + 1) (by omega)
        rw [beq_eq_false_iff_ne]
        unfold numN digN at hzn
        split <;> omega
      · left
        rw [beq_eq_false_iff_ne]; omega
    · exact Or.inl (by omega)
  intro w
  have HN := Lib.hid ‹i0 ≤ 0 + 1›
  rcases hsg with ⟨rfl, rfl, rfl⟩ | ⟨rfl, rfl, rfl⟩ | ⟨hx1, hx2, rfl, rfl⟩
  · rcases hox with h2 | ⟨h2, y, hy, hy1 | ⟨rfl, z, l, hz, hlow, hl⟩⟩
    · go_enter Tryz.func52, Tryz.ntmps52
      go_wp2_with fail
      go_step3
      go_wp2_with fail
      (first | go_step3 | skip)
      (first | (rename_i hK; refine hK _ _ ?_) | (rename_i hK _; refine hK _ _ ?_) | (rename_i hK _ _; refine hK _ _ ?_))
      refine Code.wp_mono noGoto_body (rf_main S HNUM.out _ _ n HNN.out HGO.out HST.out r HR.out _ _ _ _ _ _ _ _ _ _ _ _ _ _ _ _ _ _ _ _ _ _ _ _ _ _ _ _ _ _ _ _ _ _ _ _ _ _ _ _ _ _ _ _ _ _ _ _ _ _ _ _ _ _ _ _ _ _ _ _ _ _ _ _ _ _ _ _ _ _ _ _ _ _ _ _ _ _ _ _ _ _ _ _ _ _ _ _ _ _ _ _ _ _ _ _ _ _ _ _ _ _ _ _ _ _ _ _ _ _ _ _ _ _ _ _ _ _ _ _ _ _ _ _ _ _ _ _ _ _ _ _ _ _ _ _ _ _ _ _ _ _ _ _ _ _ _ _ _ _ _ _ _ _ _ _ _ _ _ _ _ _ _ _ _ _ _ _ _ _ _ _ _ _ _ _ _ _ _ _ _ _ _ _ _ _ _ _ _ _ _ _ _ _ _ _ _ _ _ _ _ _ _ _ _ _ _ _ _ _ _ _ _ _ _ _ _ _ _ _ _ _ _ _ _ _ _ _ _ _ _ _ _ _ _ _ _ _ ⟨rfl, rfl⟩)
    · go_enter Tryz.func52, Tryz.ntmps52
      go_wp2_with fail
      go_step3
      go_wp2_with fail
      (first | go_step3 | skip)
      (first | (rename_i hK; refine hK _ _ ?_) | (rename_i hK _; refine hK _ _ ?_) | (rename_i hK _ _; refine hK _ _ ?_))
      refine Code.wp_mono noGoto_body (rf_main S HNUM.out _ _ n HNN.out HGO.out HST.out r HR.out _ _ _ _ _ _ _ _ _ _ _ _ _ _ _ _ _ _ _ _ _ _ _ _ _ _ _ _ _ _ _ _ _ _ _ _ _ _ _ _ _ _ _ _ _ _ _ _ _ _ _ _ _ _ _ _ _ _ _ _ _ _ _ _ _ _ _ _ _ _ _ _ _ _ _ _ _ _ _ _ _ _ _ _ _ _ _ _ _ _ _ _ _ _ _ _ _ _ _ _ _ _ _ _ _ _ _ _ _ _ _ _ _ _ _ _ _ _ _ _ _ _ _ _ _ _ _ _ _ _ _ _ _ _ _ _ _ _ _ _ _ _ _ _ _ _ _ _ _ _ _ _ _ _ _ _ _ _ _ _ _ _ _ _ _ _ _ _ _ _ _ _ _ _ _ _ _ _ _ _ _ _ _ _ _ _ _ _ _ _ _ _ _ _ _ _ _ _ _ _ _ _ _ _ _ _ _ _ _ _ _ _ _ _ _ _ _ _ _ _ _ _ _ _ _ _ _ _ _ _ _ _ _ _ _ _ _ _ ⟨rfl, rfl⟩)
    · go_enter Tryz.func52, Tryz.ntmps52
      go_wp2_with fail
      go_step3
      go_wp2_with fail
      refine (hlow _).mono ?_
      rintro e w' ⟨rfl, rfl⟩
      go_wp2_with fail
      (first | go_step3 | skip)
      (first | (rename_i hK; refine hK _ _ ?_) | (rename_i hK _; refine hK _ _ ?_) | (rename_i hK _ _; refine hK _ _ ?_))
      refine Code.wp_mono noGoto_body (rf_main S HNUM.out _ _ n HNN.out HGO.out HST.out r HR.out _ _ _ _ _ _ _ _ _ _ _ _ _ _ _ _ _ _ _ _ _ _ _ _ _ _ _ _ _ _ _ _ _ _ _ _ _ _ _ _ _ _ _ _ _ _ _ _ _ _ _ _ _ _ _ _ _ _ _ _ _ _ _ _ _ _ _ _ _ _ _ _ _ _ _ _ _ _ _ _ _ _ _ _ _ _ _ _ _ _ _ _ _ _ _ _ _ _ _ _ _ _ _ _ _ _ _ _ _ _ _ _ _ _ _ _ _ _ _ _ _ _ _ _ _ _ _ _ _ _ _ _ _ _ _ _ _ _ _ _ _ _ _ _ _ _ _ _ _ _ _ _ _ _ _ _ _ _ _ _ _ _ _ _ _ _ _ _ _ _ _ _ _ _ _ _ _ _ _ _ _ _ _ _ _ _ _ _ _ _ _ _ _ _ _ _ _ _ _ _ _ _ _ _ _ _ _ _ _ _ _ _ _ _ _ _ _ _ _ _ _ _ _ _ _ _ _ _ _ _ _ _ _ _ _ _ _ _ ⟨rfl, rfl⟩)
  · rcases hox with h2 | ⟨h2, y, hy, hy1 | ⟨rfl, z, l, hz, hlow, hl⟩⟩
    · go_enter Tryz.func52, Tryz.ntmps52
      go_wp2_with fail
      go_step3
      go_wp2_with fail
      (first | go_step3 | skip)
      (first | (rename_i hK; refine hK _ _ ?_) | (rename_i hK _; refine hK _ _ ?_) | (rename_i hK _ _; refine hK _ _ ?_))
      refine Code.wp_mono noGoto_body (rf_main S HNUM.out _ _ n HNN.out HGO.out HST.out r HR.out _ _ _ _ _ _ _ _ _ _ _ _ _ _ _ _ _ _ _ _ _ _ _ _ _ _ _ _ _ _ _ _ _ _ _ _ _ _ _ _ _ _ _ _ _ _ _ _ _ _ _ _ _ _ _ _ _ _ _ _ _ _ _ _ _ _ _ _ _ _ _ _ _ _ _ _ _ _ _ _ _ _ _ _ _ _ _ _ _ _ _ _ _ _ _ _ _ _ _ _ _ _ _ _ _ _ _ _ _ _ _ _ _ _ _ _ _ _ _ _ _ _ _ _ _ _ _ _ _ _ _ _ _ _ _ _ _ _ _ _ _ _ _ _ _ _ _ _ _ _ _ _ _ _ _ _ _ _ _ _ _ _ _ _ _ _ _ _ _ _ _ _ _ _ _ _ _ _ _ _ _ _ _ _ _ _ _ _ _ _ _ _ _ _ _ _ _ _ _ _ _ _ _ _ _ _ _ _ _ _ _ _ _ _ _ _ _ _ _ _ _ _ _ _ _ _ _ _ _ _ _ _ _ _ _ _ _ _ ⟨rfl, rfl⟩)
    · go_enter Tryz.func52, Tryz.ntmps52
      go_wp2_with fail
      go_step3
      go_wp2_with fail
      (first | go_step3 | skip)
      (first | (rename_i hK; refine hK _ _ ?_) | (rename_i hK _; refine hK _ _ ?_) | (rename_i hK _ _; refine hK _ _ ?_))
      refine Code.wp_mono noGoto_body (rf_main S HNUM.out _ _ n HNN.out HGO.out HST.out r HR.out _ _ _ _ _ _ _ _ _ _ _ _ _ _ _ _ _ _ _ _ _ _ _ _ _ _ _ _ _ _ _ _ _ _ _ _ _ _ _ _ _ _ _ _ _ _ _ _ _ _ _ _ _ _ _ _ _ _ _ _ _ _ _ _ _ _ _ _ _ _ _ _ _ _ _ _ _ _ _ _ _ _ _ _ _ _ _ _ _ _ _ _ _ _ _ _ _ _ _ _ _ _ _ _ _ _ _ _ _ _ _ _ _ _ _ _ _ _ _ _ _ _ _ _ _ _ _ _ _ _ _ _ _ _ _ _ _ _ _ _ _ _ _ _ _ _ _ _ _ _ _ _ _ _ _ _ _ _ _ _ _ _ _ _ _ _ _ _ _ _ _ _ _ _ _ _ _ _ _ _ _ _ _ _ _ _ _ _ _ _ _ _ _ _ _ _ _ _ _ _ _ _ _ _ _ _ _ _ _ _ _ _ _ _ _ _ _ _ _ _ _ _ _ _ _ _ _ _ _ _ _ _ _ _ _ _ _ _ ⟨rfl, rfl⟩)
    · go_enter Tryz.func52, Tryz.ntmps52
      go_wp2_with fail
      go_step3
      go_wp2_with fail
      refine (hlow _).mono ?_
      rintro e w' ⟨rfl, rfl⟩
      go_wp2_with fail
      (first | go_step3 | skip)
      (first | (rename_i hK; refine hK _ _ ?_) | (rename_i hK _; refine hK _ _ ?_) | (rename_i hK _ _; refine hK _ _ ?_))
      refine Code.wp_mono noGoto_body (rf_main S HNUM.out _ _ n HNN.out HGO.out HST.out r HR.out _ _ _ _ _ _ _ _ _ _ _ _ _ _ _ _ _ _ _ _ _ _ _ _ _ _ _ _ _ _ _ _ _ _ _ _ _ _ _ _ _ _ _ _ _ _ _ _ _ _ _ _ _ _ _ _ _ _ _ _ _ _ _ _ _ _ _ _ _ _ _ _ _ _ _ _ _ _ _ _ _ _ _ _ _ _ _ _ _ _ _ _ _ _ _ _ _ _ _ _ _ _ _ _ _ _ _ _ _ _ _ _ _ _ _ _ _ _ _ _ _ _ _ _ _ _ _ _ _ _ _ _ _ _ _ _ _ _ _ _ _ _ _ _ _ _ _ _ _ _ _ _ _ _ _ _ _ _ _ _ _ _ _ _ _ _ _ _ _ _ _ _ _ _ _ _ _ _ _ _ _ _ _ _ _ _ _ _ _ _ _ _ _ _ _ _ _ _ _ _ _ _ _ _ _ _ _ _ _ _ _ _ _ _ _ _ _ _ _ _ _ _ _ _ _ _ _ _ _ _ _ _ _ _ _ _ _ _ ⟨rfl, rfl⟩)
  · rcases hox with h2 | ⟨h2, y, hy, hy1 | ⟨rfl, z, l, hz, hlow, hl⟩⟩
    · go_enter Tryz.func52, Tryz.ntmps52
      go_wp2_with fail
      go_step3
      go_wp2_with fail
      (first | go_step3 | skip)
      (first | (rename_i hK; refine hK _ _ ?_) | (rename_i hK _; refine hK _ _ ?_) | (rename_i hK _ _; refine hK _ _ ?_))
      refine Code.wp_mono noGoto_body (rf_main S HNUM.out _ _ n HNN.out HGO.out HST.out r HR.out _ _ _ _ _ _ _ _ _ _ _ _ _ _ _ _ _ _ _ _ _ _ _ _ _ _ _ _ _ _ _ _ _ _ _ _ _ _ _ _ _ _ _ _ _ _ _ _ _ _ _ _ _ _ _ _ _ _ _ _ _ _ _ _ _ _ _ _ _ _ _ _ _ _ _ _ _ _ _ _ _ _ _ _ _ _ _ _ _ _ _ _ _ _ _ _ _ _ _ _ _ _ _ _ _ _ _ _ _ _ _ _ _ _ _ _ _ _ _ _ _ _ _ _ _ _ _ _ _ _ _ _ _ _ _ _ _ _ _ _ _ _ _ _ _ _ _ _ _ _ _ _ _ _ _ _ _ _ _ _ _ _ _ _ _ _ _ _ _ _ _ _ _ _ _ _ _ _ _ _ _ _ _ _ _ _ _ _ _ _ _ _ _ _ _ _ _ _ _ _ _ _ _ _ _ _ _ _ _ _ _ _ _ _ _ _ _ _ _ _ _ _ _ _ _ _ _ _ _ _ _ _ _ _ _ _ _ _ ⟨rfl, rfl⟩)
    · obtain rfl : y = x := by omega
      go_enter Tryz.func52, Tryz.ntmps52
      go_wp2_with fail
      go_step3
      go_wp2_with fail
      (first | go_step3 | skip)
      (first | (rename_i hK; refine hK _ _ ?_) | (rename_i hK _; refine hK _ _ ?_) | (rename_i hK _ _; refine hK _ _ ?_))
      refine Code.wp_mono noGoto_body (rf_main S HNUM.out _ _ n HNN.out HGO.out HST.out r HR.out _ _ _ _ _ _ _ _ _ _ _ _ _ _ _ _ _ _ _ _ _ _ _ _ _ _ _ _ _ _ _ _ _ _ _ _ _ _ _ _ _ _ _ _ _ _ _ _ _ _ _ _ _ _ _ _ _ _ _ _ _ _ _ _ _ _ _ _ _ _ _ _ _ _ _ _ _ _ _ _ _ _ _ _ _ _ _ _ _ _ _ _ _ _ _ _ _ _ _ _ _ _ _ _ _ _ _ _ _ _ _ _ _ _ _ _ _ _ _ _ _ _ _ _ _ _ _ _ _ _ _ _ _ _ _ _ _ _ _ _ _ _ _ _ _ _ _ _ _ _ _ _ _ _ _ _ _ _ _ _ _ _ _ _ _ _ _ _ _ _ _ _ _ _ _ _ _ _ _ _ _ _ _ _ _ _ _ _ _ _ _ _ _ _ _ _ _ _ _ _ _ _ _ _ _ _ _ _ _ _ _ _ _ _ _ _ _ _ _ _ _ _ _ _ _ _ _ _ _ _ _ _ _ _ _ _ _ _ ⟨rfl, rfl⟩)
    · obtain rfl : x = 48 := by omega
      go_enter Tryz.func52, Tryz.ntmps52
      go_wp2_with fail
      go_step3
      go_wp2_with fail
      refine (hlow _).mono ?_
      rintro e w' ⟨rfl, rfl⟩
      go_wp2_with fail
      (first | go_step3 | skip)
      (first | (rename_i hK; refine hK _ _ ?_) | (rename_i hK _; refine hK _ _ ?_) | (rename_i hK _ _; refine hK _ _ ?_))
      refine Code.wp_mono noGoto_body (rf_main S HNUM.out _ _ n HNN.out HGO.out HST.out r HR.out _ _ _ _ _ _ _ _ _ _ _ _ _ _ _ _ _ _ _ _ _ _ _ _ _ _ _ _ _ _ _ _ _ _ _ _ _ _ _ _ _ _ _ _ _ _ _ _ _ _ _ _ _ _ _ _ _ _ _ _ _ _ _ _ _ _ _ _ _ _ _ _ _ _ _ _ _ _ _ _ _ _ _ _ _ _ _ _ _ _ _ _ _ _ _ _ _ _ _ _ _ _ _ _ _ _ _ _ _ _ _ _ _ _ _ _ _ _ _ _ _ _ _ _ _ _ _ _ _ _ _ _ _ _ _ _ _ _ _ _ _ _ _ _ _ _ _ _ _ _ _ _ _ _ _ _ _ _ _ _ _ _ _ _ _ _ _ _ _ _ _ _ _ _ _ _ _ _ _ _ _ _ _ _ _ _ _ _ _ _ _ _ _ _ _ _ _ _ _ _ _ _ _ _ _ _ _ _ _ _ _ _ _ _ _ _ _ _ _ _ _ _ _ _ _ _ _ _ _ _ _ _ _ _ _ _ _ _ ⟨rfl, rfl⟩)
/-- What readFloat does with a text. -/
theorem readFloat_any (S : ByteArray) (hS : Numeric S) (h0 : 0 < S.size) : ∃ (i0 n : Nat) (r : RF), sgnI (ch S 0) 0 = i0 ∧ i0 + n ≤ S.size ∧ (∀ j, j < n → ¬ rStop (rsAt S i0 j) (ch S (i0 + j))) ∧
    RRest S (sgnB (ch S 0)) (rsAt S i0 n) (i0 + n) r ∧ r.m < 10000000000000000000 ∧ -200000 ≤ r.exp ∧ r.exp ≤ 200000 ∧ r.i ≤ S.size ∧ ReadsAs S r := by
  have hi0 := (sgnI_le (ch S 0) 0).2
  obtain ⟨i0, hI⟩ : ∃ i0, sgnI (ch S 0) 0 = i0 := ⟨_, rfl⟩
  rw [hI] at hi0
  obtain ⟨n, hn1, hn2, hn3⟩ := first_ex (fun j => rStop (rsAt S i0 j) (ch S (i0 + j))) (S.size - i0)
  have hsz := hS.1
  have hok := rsAt_ok S i0 n hn2 n (Nat.le_refl _)
  obtain ⟨r, hr, hr1, hr2, hr3, hr4⟩ := RRest.ex S (sgnB (ch S 0)) (rsAt S i0 n) (i0 + n) n (by omega) hok (by omega)
  refine ⟨i0, n, r, hI, by omega, hn2, hr, hr1, hr2, hr3, hr4, ?_⟩
  subst hI
  exact readFloat_walk S hS h0 n (by omega) hn2 (by rcases hn3 with h | h; exact Or.inl (by omega); exact Or.inr h) r hr
end Go.Proofs.YtodihpaabkplhaaGreatDoor
