/- readFloat behind its digits: a whole exponent; all ways. -/
import Derived.Test.YtodihpaabkplhaaGreatDoorPrg
import Derived.Deep.DeepCutAuto
import Derived.Deep.CutBlock
import Derived.WalkMore
namespace Go.Proofs.YtodihpaabkplhaaGreatDoor
open Go.RowKit

noncomputable def rfEnd : Code := (Tryz.f52.body.bind (seqAt 77)).getD .skip
set_option maxRecDepth 100000 in
theorem rf_end (S : ByteArray) (neg tr : Bool) (m nm p : Nat) (D E : Int) (_ : m < 10000000000000000000) (hnm : nm ≤ 19) (hD0 : -110000 ≤ D) (hD1 : D ≤ 110000)
    (hm : ((m : Int) != 0) = false ∧ E = 0 ∨ ((m : Int) != 0) = true ∧ E = D - nm) (w : World) (post : Ending → World → Prop) (u1 u10 u11 u12 u13 u14 u15 u18 u19 u20 u21 u22 u23 u24 u25 u26 u27 u28 u29 u30 u31 u32 u33 u34 u35 u36 u37 u38 u39 u40 u41 u42 u43 u44 u45 u46 u47 u48 u49 u50 u51 u52 u53 u54 u55 u56 u57 u58 u59 u60 u61 u62 u63 u64 u65 u66 u67 u68 u69 u70 u71 u72 u73 u74 u75 u76 u77 u78 u79 u80 u81 u82 u83 u84 u85 u86 u87 u88 u89 u90 u91 u92 u93 u94 u95 u96 u97 u98 u99 u100 u101 u102 u103 u104 u105 u106 u107 u108 u109 u110 u111 u112 u113 u114 u115 u116 u117 u118 u119 u120 u121 u122 u123 u124 u125 u126 u127 u128 u129 u130 u131 u132 u133 u134 u135 u136 u137 u138 u139 u140 u141 u142 u143 u144 u145 u146 u147 u148 u149 u150 u151 u152 u153 u154 u155 u156 u157 u158 u159 u160 u161 u162 u163 u164 u165 u166 u167 u168 u169 u170 u171 u172 u173 u174 u175 u176 u177 u178 u179 u180 u181 u182 u183 u184 u185 u186 u187 u188 u189 u190 u191 u192 u193 u194 u195 u196 u197 u198 u199 u200 u201 u202 u203 u204 u205 u206 u207 u208 u209 u210 u211 u212 u213 u214 u215 u216 u217 u218 u219 u220 u221 u222 u223 u224 u225 u226 u227 u228 u229 u230 u231 u232 u233 u234 u235 u236 u237 u238 u239 u240 u241 u242 u243 u244 u245 u246 u247 u248 u249 u250 u251 u252 : Value)
    (hpost : post (.returned (RF.val ⟨m, E, neg, tr, p, true⟩)) w) :
    Code.wp Tryz.prog rfEnd (bodyPost Tryz.prog Tryz.f52 post) ⟨#[.string S, u1, .int .u64 (m : Int), .int .i64 0, .bool neg, .bool tr, .bool false, .int .i64 (p : Int), .bool false, .bool false, u10, u11, u12, u13, u14, u15, .int .i64 (nm : Int), .int .i64 D, u18, u19, u20, u21, u22, u23, u24, u25, u26, u27, u28, u29, u30, u31, u32, u33, u34, u35, u36, u37, u38, u39, u40, u41, u42, u43, u44, u45, u46, u47, u48, u49, u50, u51, u52, u53, u54, u55, u56, u57, u58, u59, u60, u61, u62, u63, u64, u65, u66, u67, u68, u69, u70, u71, u72, u73, u74, u75, u76, u77, u78, u79, u80, u81, u82, u83, u84, u85, u86, u87, u88, u89, u90, u91, u92, u93, u94, u95, u96, u97, u98, u99, u100, u101, u102, u103, u104, u105, u106, u107, u108, u109, u110, u111, u112, u113, u114, u115, u116, u117, u118, u119, u120, u121, u122, u123, u124, u125, u126, u127, u128, u129, u130, u131, u132, u133, u134, u135, u136, u137, u138, u139, u140, u141, u142, u143, u144, u145, u146, u147, u148, u149, u150, u151, u152, u153, u154, u155, u156, u157, u158, u159, u160, u161, u162, u163, u164, u165, u166, u167, u168, u169, u170, u171, u172, u173, u174, u175, u176, u177, u178, u179, u180, u181, u182, u183, u184, u185, u186, u187, u188, u189, u190, u191, u192, u193, u194, u195, u196, u197, u198, u199, u200, u201, u202, u203, u204, u205, u206, u207, u208, u209, u210, u211, u212, u213, u214, u215, u216, u217, u218, u219, u220, u221, u222, u223, u224, u225, u226, u227, u228, u229, u230, u231, u232, u233, u234, u235, u236, u237, u238, u239, u240, u241, u242, u243, u244, u245, u246, u247, u248, u249, u250, u251, u252], []⟩ w := by
  have HPOST := Lib.hid hpost
  clear hpost
  rcases hm with ⟨hm, rfl⟩ | ⟨hm, rfl⟩
  all_goals (
    conv => arg 2; whnf
    go_wp2_with fail
    (try simp only [Exit.inBlock, Exit.then])
    refine bodyPost_ret (results_tmp7 rfl _ _ _) rfl ?_
    exact HPOST.out)

set_option maxRecDepth 100000 in
set_option maxHeartbeats 4000000 in
theorem rf_exp1 (S : ByteArray) (hS : Numeric S) (neg : Bool) (st : RS) (p j : Nat) (_ : p ≤ S.size) (hs : ROk st j) (hj : j ≤ 2000) (e : Nat) (d E : Int) (hd : st.dig = true) (hpt : st.point = d) (hy : p + 1 < S.size) (he : isE (ch S p)) (h43 : ch S (p + 1) = 43) (hsp : Span digN S (p + 1 + 1) e) (hqe : p + 1 + 1 < e) (hE : st.expo (d + (eAt S (p + 1 + 1) (e - (p + 1 + 1)) : Nat) * (if sgnB (ch S (p + 1)) then -1 else 1)) = E)
    (w : World) (post : Ending → World → Prop) (u1 u18 u19 u20 u21 u22 u23 u24 u25 u26 u27 u28 u29 u30 u31 u32 u33 u34 u35 u36 u37 u38 u39 u40 u41 u42 u43 u44 u45 u46 u47 u48 u49 u50 u51 u52 u53 u54 u55 u56 u57 u58 u59 u60 u61 u62 u63 u64 u65 u66 u67 u68 u69 u70 u71 u72 u73 u74 u75 u76 u77 u78 u79 u80 u81 u82 u83 u84 u85 u86 u87 u88 u89 u90 u91 u92 u93 u94 u95 u96 u97 u98 u99 u100 u101 u102 u103 u104 u105 u106 u107 u108 u109 u110 u111 u112 u113 u114 u115 u116 u117 u118 u119 u120 u121 u122 u123 u124 u125 u126 u127 u128 u129 u130 u131 u132 u133 u134 u135 u136 u137 u138 u139 u140 u141 u142 u143 u144 u145 u146 u147 u148 u149 u150 u151 u152 u153 u154 u155 u156 u157 u158 u159 u160 u161 u162 u163 u164 u165 u166 u167 u168 u169 u170 u171 u172 u173 u174 u175 u176 u177 u178 u179 u180 u181 u182 u183 u184 u185 u186 u187 u188 u189 u190 u191 u192 u193 u194 u195 u196 u197 u198 u199 u200 u201 u202 u203 u204 u205 u206 u207 u208 u209 u210 u211 u212 u213 u214 u215 u216 u217 u218 u219 u220 u221 u222 u223 u224 u225 u226 u227 u228 u229 u230 u231 u232 u233 u234 u235 u236 u237 u238 u239 u240 u241 u242 u243 u244 u245 u246 u247 u248 u249 u250 u251 u252 : Value)
    (hpost : post (.returned (RF.val ⟨st.m, E, neg, st.tr, e, true⟩)) w) :
    Code.wp Tryz.prog rfTail (bodyPost Tryz.prog Tryz.f52 post) ⟨#[.string S, u1, .int .u64 (st.m : Int), .int .i64 0, .bool neg, .bool st.tr, .bool false, .int .i64 (p : Int), .bool false, .bool false, .int .u64 10, .int .i64 19, .int .u8 101, .bool st.dot, .bool st.dig, .int .i64 (st.nd : Int), .int .i64 (st.nm : Int), .int .i64 st.dp, u18, u19, u20, u21, u22, u23, u24, u25, u26, u27, u28, u29, u30, u31, u32, u33, u34, u35, u36, u37, u38, u39, u40, u41, u42, u43, u44, u45, u46, u47, u48, u49, u50, u51, u52, u53, u54, u55, u56, u57, u58, u59, u60, u61, u62, u63, u64, u65, u66, u67, u68, u69, u70, u71, u72, u73, u74, u75, u76, u77, u78, u79, u80, u81, u82, u83, u84, u85, u86, u87, u88, u89, u90, u91, u92, u93, u94, u95, u96, u97, u98, u99, u100, u101, u102, u103, u104, u105, u106, u107, u108, u109, u110, u111, u112, u113, u114, u115, u116, u117, u118, u119, u120, u121, u122, u123, u124, u125, u126, u127, u128, u129, u130, u131, u132, u133, u134, u135, u136, u137, u138, u139, u140, u141, u142, u143, u144, u145, u146, u147, u148, u149, u150, u151, u152, u153, u154, u155, u156, u157, u158, u159, u160, u161, u162, u163, u164, u165, u166, u167, u168, u169, u170, u171, u172, u173, u174, u175, u176, u177, u178, u179, u180, u181, u182, u183, u184, u185, u186, u187, u188, u189, u190, u191, u192, u193, u194, u195, u196, u197, u198, u199, u200, u201, u202, u203, u204, u205, u206, u207, u208, u209, u210, u211, u212, u213, u214, u215, u216, u217, u218, u219, u220, u221, u222, u223, u224, u225, u226, u227, u228, u229, u230, u231, u232, u233, u234, u235, u236, u237, u238, u239, u240, u241, u242, u243, u244, u245, u246, u247, u248, u249, u250, u251, u252], []⟩ w := by
  have HNUM := Lib.hid hS
  have HPOST := Lib.hid hpost
  have hsz := hS.1
  clear hS hpost
  have hm20 := hs.m20
  have hnd := hs.nd
  have hnm := hs.nm
  have hd0 := hs.d0
  have hd1 := hs.d1
  clear hs
  obtain ⟨dot, dig, tr, nd, nm, dp, m⟩ := st
  simp only at hm20 hnd hnm hd0 hd1 ⊢
  simp only at hd
  subst hd
  have hlt : p < S.size := by omega
  obtain ⟨y, l, _, hyi, hlow, hle, hln⟩ := lower_at S HNUM.out p hlt
  have hl := hle he
  subst hl
  have hlt' : (p : Int) < (S.size : Int) := by omega
  have hlt2 : (p : Int) + 1 < (S.size : Int) := by omega
  have hlw := hlow w
  have hpd : -2000 ≤ d ∧ d ≤ 2000 := by
    unfold RS.point at hpt
    simp only at hpt
    split at hpt <;> omega
  have hesz := hsp.end_le
  have HSP := Lib.hid hsp
  clear hle hln hlow he
  have hpt2 : (dot = false ∧ d = nd) ∨ (dot = true ∧ d = dp) := by
    unfold RS.point at hpt
    cases dot
    · exact Or.inl ⟨rfl, by simpa using hpt.symm⟩
    · exact Or.inr ⟨rfl, by simpa using hpt.symm⟩
  clear hpt
  have hch := ch_eq S (p + 1) hy
  rw [h43] at hch
  have hci : ((S[p + 1]'hy).toNat : Int) = 43 := by omega
  have hg : (if sgnB (ch S (p + 1)) then -1 else 1 : Int) = 1 := by rw [h43]; rfl
  clear h43 hch
  rw [hg] at hE
  obtain ⟨hE1, hE2⟩ := expo_facts _ _ _ hE
  simp only at hE1 hE2
  obtain ⟨z, -, hz, hz1, hz2⟩ := dig_at S _ (by omega) (HSP.out.all _ (Nat.le_refl _) hqe)
  have hb1 : decide (S.size ≤ (p + 1 + 1)) = false := decide_eq_false (by omega)
  have hb1' : decide ((S.size : Int) ≤ (p : Int) + 1 + 1) = false := decide_eq_false (by omega)
  have hb2 : decide ((z : Int) < 48) = false := decide_eq_false (by omega)
  have hb3 : decide ((57 : Int) < (z : Int)) = false := decide_eq_false (by omega)
  have HE2 := Lib.hid (And.intro hE1 hE2)
  clear hE hE1 hE2 hg hsp
  obtain ⟨n, hn⟩ : ∃ n, e - (p + 1 + 1) = n := ⟨_, rfl⟩
  rw [hn] at HE2
  conv => arg 2; whnf
  conv => arg 4; dsimp only
  go_upto_if 142 with fail
  go_cut [17] (fun v wx => v = .int .i64 d ∧ wx = w)
  case first =>
    rcases hpt2 with ⟨rfl, rfl⟩ | ⟨rfl, rfl⟩
    all_goals (
      go_wp2_with fail
      go_meet
      exact ⟨rfl, rfl⟩)
  case rest =>
    obtain ⟨rfl, rfl⟩ := hcut
    go_wp2_with fail
    refine hlw.mono ?_
    rintro en w' ⟨rfl, rfl⟩
    go_upto_region 58 with fail
    rename_i K1 hK1 K2 hK2
    have HK := Lib.hid hK1
    clear hK1
    go_wp2_with fail
    go_loopg [7, 9, 20] n (fun k vi vu ve wr => ∃ t : Nat, k + t = n ∧ vi = .int .i64 ((p + 1 + 1) + t : Nat) ∧ vu = .bool false ∧ ve = .int .i64 (eAt S (p + 1 + 1) t : Nat) ∧ wr = w')
    case atStart => exact ⟨0, by omega, by first | rfl | (congr 1; omega), rfl, rfl, rfl⟩
    case round =>
      clear hz hz1 hz2 hb1 hb1' hb2 hb3
      obtain ⟨t, ht, rfl, rfl, rfl, rfl⟩ := hrel
      have hev := eAt_le S (p + 1 + 1) n (fun i hi => HSP.out.all ((p + 1 + 1) + i) (by omega) (by omega)) t (by omega)
      cases gk with
      | zero =>
        have htn : t = n := by omega
        subst htn
        have hqe2 : (p + 1 + 1) + t = e := by omega
        rw [hqe2]
        have he2 := HE2.out
        obtain ⟨v, hv⟩ : ∃ v, eAt S (p + 1 + 1) t = v := ⟨_, rfl⟩
        rw [hv] at he2 hev ⊢
        have hm : ((m : Int) != 0) = false ∧ E = 0 ∨ ((m : Int) != 0) = true ∧ E = d + (v : Int) * 1 - nm := by
          rcases Nat.eq_zero_or_pos m with h | h
          · subst h
            exact Or.inl ⟨rfl, he2.1 rfl⟩
          · refine Or.inr ⟨?_, he2.2 (by omega)⟩
            rw [bne_iff_ne]
            omega
        have hstop : (e : Int) = (S.size : Int) ∨ ∃ hes : e < S.size, ∃ z : Nat, ((S[e]'hes).toNat : Int) = z ∧ ((z : Int) == 95) = false ∧ ((z : Int) < 48 ∨ 48 ≤ (z : Int) ∧ 57 < (z : Int)) := by
          rcases Nat.lt_or_ge e S.size with h1 | h1
          · have h2 := HSP.out.stop
            have h3 := ch_eq S e h1
            have h4 := HNUM.out.2 e h1
            refine Or.inr ⟨h1, ch S e, by omega, ?_, ?_⟩
            · rw [beq_eq_false_iff_ne]
              unfold numN digN at h4
              omega
            · rcases h2 with h2 | h2
              · omega
              · unfold digN at h2
                omega
          · exact Or.inl (by omega)
        clear he2 hv HE2 HSP hqe2 ht hn
        rcases hstop with hs | ⟨hes, z, hz, h95, hz1 | ⟨hz1, hz2⟩⟩
        all_goals (
          have HM := Lib.hid hm
          clear hm
          go_wp2_with fail
          refine HK.out _ _ ?_
          refine rf_end S neg tr m nm e _ E hm20 hnm ?_ ?_ ?_ _ _ _ _ _ _ _ _ _ _ _ _ _ _ _ _ _ _ _ _ _ _ _ _ _ _ _ _ _ _ _ _ _ _ _ _ _ _ _ _ _ _ _ _ _ _ _ _ _ _ _ _ _ _ _ _ _ _ _ _ _ _ _ _ _ _ _ _ _ _ _ _ _ _ _ _ _ _ _ _ _ _ _ _ _ _ _ _ _ _ _ _ _ _ _ _ _ _ _ _ _ _ _ _ _ _ _ _ _ _ _ _ _ _ _ _ _ _ _ _ _ _ _ _ _ _ _ _ _ _ _ _ _ _ _ _ _ _ _ _ _ _ _ _ _ _ _ _ _ _ _ _ _ _ _ _ _ _ _ _ _ _ _ _ _ _ _ _ _ _ _ _ _ _ _ _ _ _ _ _ _ _ _ _ _ _ _ _ _ _ _ _ _ _ _ _ _ _ _ _ _ _ _ _ _ _ _ _ _ _ _ _ _ _ _ _ _ _ _ _ _ _ _ _ _ _ _ _ _ _ _ _ _ _ _ _ _ _ _ _ _ _ _ _ HPOST.out
          · omega
          · omega
          · rcases HM.out with ⟨h1, h2⟩ | ⟨h1, h2⟩
            · exact Or.inl ⟨h1, h2⟩
            · exact Or.inr ⟨h1, by omega⟩)
      | succ k =>
        obtain ⟨z, hZ, hz, hz1, hz2⟩ := dig_at S ((p + 1 + 1) + t) (by omega) (HSP.out.all ((p + 1 + 1) + t) (by omega) (by omega))
        have hlt : (((p + 1 + 1) + t : Nat) : Int) < (S.size : Int) := by omega
        have h95 : ((z : Int) == 95) = false := by rw [beq_eq_false_iff_ne]; omega
        have hnext : eAt S (p + 1 + 1) (t + 1) = if eAt S (p + 1 + 1) t < 10000 then eAt S (p + 1 + 1) t * 10 + (ch S ((p + 1 + 1) + t) - 48) else eAt S (p + 1 + 1) t := rfl
        rw [hZ] at hnext
        obtain ⟨v, hv⟩ : ∃ v, eAt S (p + 1 + 1) t = v := ⟨_, rfl⟩
        rw [hv] at hnext hev ⊢
        by_cases h10 : v < 10000
        · rw [if_pos h10] at hnext
          have h10' : (v : Int) < 10000 := by omega
          have HN := Lib.hid hnext
          clear hv hnext hZ h10
          go_wp2_with fail
          go_roundg k
          case measure => omega
          case rel => exact ⟨t + 1, by omega, by first | rfl | (congr 1; omega), rfl, by rw [HN.out]; congr 1; omega, rfl⟩
        · rw [if_neg h10] at hnext
          have h10' : ¬ (v : Int) < 10000 := by omega
          have HN := Lib.hid hnext
          clear hv hnext hZ h10
          go_wp2_with fail
          go_roundg k
          case measure => omega
          case rel => exact ⟨t + 1, by omega, by first | rfl | (congr 1; omega), rfl, by rw [HN.out], rfl⟩

set_option maxRecDepth 100000 in
set_option maxHeartbeats 4000000 in
theorem rf_exp2 (S : ByteArray) (hS : Numeric S) (neg : Bool) (st : RS) (p j : Nat) (_ : p ≤ S.size) (hs : ROk st j) (hj : j ≤ 2000) (e : Nat) (d E : Int) (hd : st.dig = true) (hpt : st.point = d) (hy : p + 1 < S.size) (he : isE (ch S p)) (h43 : ch S (p + 1) = 45) (hsp : Span digN S (p + 1 + 1) e) (hqe : p + 1 + 1 < e) (hE : st.expo (d + (eAt S (p + 1 + 1) (e - (p + 1 + 1)) : Nat) * (if sgnB (ch S (p + 1)) then -1 else 1)) = E)
    (w : World) (post : Ending → World → Prop) (u1 u18 u19 u20 u21 u22 u23 u24 u25 u26 u27 u28 u29 u30 u31 u32 u33 u34 u35 u36 u37 u38 u39 u40 u41 u42 u43 u44 u45 u46 u47 u48 u49 u50 u51 u52 u53 u54 u55 u56 u57 u58 u59 u60 u61 u62 u63 u64 u65 u66 u67 u68 u69 u70 u71 u72 u73 u74 u75 u76 u77 u78 u79 u80 u81 u82 u83 u84 u85 u86 u87 u88 u89 u90 u91 u92 u93 u94 u95 u96 u97 u98 u99 u100 u101 u102 u103 u104 u105 u106 u107 u108 u109 u110 u111 u112 u113 u114 u115 u116 u117 u118 u119 u120 u121 u122 u123 u124 u125 u126 u127 u128 u129 u130 u131 u132 u133 u134 u135 u136 u137 u138 u139 u140 u141 u142 u143 u144 u145 u146 u147 u148 u149 u150 u151 u152 u153 u154 u155 u156 u157 u158 u159 u160 u161 u162 u163 u164 u165 u166 u167 u168 u169 u170 u171 u172 u173 u174 u175 u176 u177 u178 u179 u180 u181 u182 u183 u184 u185 u186 u187 u188 u189 u190 u191 u192 u193 u194 u195 u196 u197 u198 u199 u200 u201 u202 u203 u204 u205 u206 u207 u208 u209 u210 u211 u212 u213 u214 u215 u216 u217 u218 u219 u220 u221 u222 u223 u224 u225 u226 u227 u228 u229 u230 u231 u232 u233 u234 u235 u236 u237 u238 u239 u240 u241 u242 u243 u244 u245 u246 u247 u248 u249 u250 u251 u252 : Value)
    (hpost : post (.returned (RF.val ⟨st.m, E, neg, st.tr, e, true⟩)) w) :
    Code.wp Tryz.prog rfTail (bodyPost Tryz.prog Tryz.f52 post) ⟨#[.string S, u1, .int .u64 (st.m : Int), .int .i64 0, .bool neg, .bool st.tr, .bool false, .int .i64 (p : Int), .bool false, .bool false, .int .u64 10, .int .i64 19, .int .u8 101, .bool st.dot, .bool st.dig, .int .i64 (st.nd : Int), .int .i64 (st.nm : Int), .int .i64 st.dp, u18, u19, u20, u21, u22, u23, u24, u25, u26, u27, u28, u29, u30, u31, u32, u33, u34, u35, u36, u37, u38, u39, u40, u41, u42, u43, u44, u45, u46, u47, u48, u49, u50, u51, u52, u53, u54, u55, u56, u57, u58, u59, u60, u61, u62, u63, u64, u65, u66, u67, u68, u69, u70, u71, u72, u73, u74, u75, u76, u77, u78, u79, u80, u81, u82, u83, u84, u85, u86, u87, u88, u89, u90, u91, u92, u93, u94, u95, u96, u97, u98, u99, u100, u101, u102, u103, u104, u105, u106, u107, u108, u109, u110, u111, u112, u113, u114, u115, u116, u117, u118, u119, u120, u121, u122, u123, u124, u125, u126, u127, u128, u129, u130, u131, u132, u133, u134, u135, u136, u137, u138, u139, u140, u141, u142, u143, u144, u145, u146, u147, u148, u149, u150, u151, u152, u153, u154, u155, u156, u157, u158, u159, u160, u161, u162, u163, u164, u165, u166, u167, u168, u169, u170, u171, u172, u173, u174, u175, u176, u177, u178, u179, u180, u181, u182, u183, u184, u185, u186, u187, u188, u189, u190, u191, u192, u193, u194, u195, u196, u197, u198, u199, u200, u201, u202, u203, u204, u205, u206, u207, u208, u209, u210, u211, u212, u213, u214, u215, u216, u217, u218, u219, u220, u221, u222, u223, u224, u225, u226, u227, u228, u229, u230, u231, u232, u233, u234, u235, u236, u237, u238, u239, u240, u241, u242, u243, u244, u245, u246, u247, u248, u249, u250, u251, u252], []⟩ w := by
  have HNUM := Lib.hid hS
  have HPOST := Lib.hid hpost
  have hsz := hS.1
  clear hS hpost
  have hm20 := hs.m20
  have hnd := hs.nd
  have hnm := hs.nm
  have hd0 := hs.d0
  have hd1 := hs.d1
  clear hs
  obtain ⟨dot, dig, tr, nd, nm, dp, m⟩ := st
  simp only at hm20 hnd hnm hd0 hd1 ⊢
  simp only at hd
  subst hd
  have hlt : p < S.size := by omega
  obtain ⟨y, l, _, hyi, hlow, hle, hln⟩ := lower_at S HNUM.out p hlt
  have hl := hle he
  subst hl
  have hlt' : (p : Int) < (S.size : Int) := by omega
  have hlt2 : (p : Int) + 1 < (S.size : Int) := by omega
  have hlw := hlow w
  have hpd : -2000 ≤ d ∧ d ≤ 2000 := by
    unfold RS.point at hpt
    simp only at hpt
    split at hpt <;> omega
  have hesz := hsp.end_le
  have HSP := Lib.hid hsp
  clear hle hln hlow he
  have hpt2 : (dot = false ∧ d = nd) ∨ (dot = true ∧ d = dp) := by
    unfold RS.point at hpt
    cases dot
    · exact Or.inl ⟨rfl, by simpa using hpt.symm⟩
    · exact Or.inr ⟨rfl, by simpa using hpt.symm⟩
  clear hpt
  have hch := ch_eq S (p + 1) hy
  rw [h43] at hch
  have hci : ((S[p + 1]'hy).toNat : Int) = 45 := by omega
  have hg : (if sgnB (ch S (p + 1)) then -1 else 1 : Int) = -1 := by rw [h43]; rfl
  clear h43 hch
  rw [hg] at hE
  obtain ⟨hE1, hE2⟩ := expo_facts _ _ _ hE
  simp only at hE1 hE2
  obtain ⟨z, -, hz, hz1, hz2⟩ := dig_at S _ (by omega) (HSP.out.all _ (Nat.le_refl _) hqe)
  have hb1 : decide (S.size ≤ (p + 1 + 1)) = false := decide_eq_false (by omega)
  have hb1' : decide ((S.size : Int) ≤ (p : Int) + 1 + 1) = false := decide_eq_false (by omega)
  have hb2 : decide ((z : Int) < 48) = false := decide_eq_false (by omega)
  have hb3 : decide ((57 : Int) < (z : Int)) = false := decide_eq_false (by omega)
  have HE2 := Lib.hid (And.intro hE1 hE2)
  clear hE hE1 hE2 hg hsp
  obtain ⟨n, hn⟩ : ∃ n, e - (p + 1 + 1) = n := ⟨_, rfl⟩
  rw [hn] at HE2
  conv => arg 2; whnf
  conv => arg 4; dsimp only
  go_upto_if 142 with fail
  go_cut [17] (fun v wx => v = .int .i64 d ∧ wx = w)
  case first =>
    rcases hpt2 with ⟨rfl, rfl⟩ | ⟨rfl, rfl⟩
    all_goals (
      go_wp2_with fail
      go_meet
      exact ⟨rfl, rfl⟩)
  case rest =>
    obtain ⟨rfl, rfl⟩ := hcut
    go_wp2_with fail
    refine hlw.mono ?_
    rintro en w' ⟨rfl, rfl⟩
    go_upto_region 58 with fail
    rename_i K1 hK1 K2 hK2
    have HK := Lib.hid hK1
    clear hK1
    go_wp2_with fail
    go_loopg [7, 9, 20] n (fun k vi vu ve wr => ∃ t : Nat, k + t = n ∧ vi = .int .i64 ((p + 1 + 1) + t : Nat) ∧ vu = .bool false ∧ ve = .int .i64 (eAt S (p + 1 + 1) t : Nat) ∧ wr = w')
    case atStart => exact ⟨0, by omega, by first | rfl | (congr 1; omega), rfl, rfl, rfl⟩
    case round =>
      clear hz hz1 hz2 hb1 hb1' hb2 hb3
      obtain ⟨t, ht, rfl, rfl, rfl, rfl⟩ := hrel
      have hev := eAt_le S (p + 1 + 1) n (fun i hi => HSP.out.all ((p + 1 + 1) + i) (by omega) (by omega)) t (by omega)
      cases gk with
      | zero =>
        have htn : t = n := by omega
        subst htn
        have hqe2 : (p + 1 + 1) + t = e := by omega
        rw [hqe2]
        have he2 := HE2.out
        obtain ⟨v, hv⟩ : ∃ v, eAt S (p + 1 + 1) t = v := ⟨_, rfl⟩
        rw [hv] at he2 hev ⊢
        have hm : ((m : Int) != 0) = false ∧ E = 0 ∨ ((m : Int) != 0) = true ∧ E = d + (v : Int) * -1 - nm := by
          rcases Nat.eq_zero_or_pos m with h | h
          · subst h
            exact Or.inl ⟨rfl, he2.1 rfl⟩
          · refine Or.inr ⟨?_, he2.2 (by omega)⟩
            rw [bne_iff_ne]
            omega
        have hstop : (e : Int) = (S.size : Int) ∨ ∃ hes : e < S.size, ∃ z : Nat, ((S[e]'hes).toNat : Int) = z ∧ ((z : Int) == 95) = false ∧ ((z : Int) < 48 ∨ 48 ≤ (z : Int) ∧ 57 < (z : Int)) := by
          rcases Nat.lt_or_ge e S.size with h1 | h1
          · have h2 := HSP.out.stop
            have h3 := ch_eq S e h1
            have h4 := HNUM.out.2 e h1
            refine Or.inr ⟨h1, ch S e, by omega, ?_, ?_⟩
            · rw [beq_eq_false_iff_ne]
              unfold numN digN at h4
              omega
            · rcases h2 with h2 | h2
              · omega
              · unfold digN at h2
                omega
          · exact Or.inl (by omega)
        clear he2 hv HE2 HSP hqe2 ht hn
        rcases hstop with hs | ⟨hes, z, hz, h95, hz1 | ⟨hz1, hz2⟩⟩
        all_goals (
          have HM := Lib.hid hm
          clear hm
          go_wp2_with fail
          refine HK.out _ _ ?_
          refine rf_end S neg tr m nm e _ E hm20 hnm ?_ ?_ ?_ _ _ _ _ _ _ _ _ _ _ _ _ _ _ _ _ _ _ _ _ _ _ _ _ _ _ _ _ _ _ _ _ _ _ _ _ _ _ _ _ _ _ _ _ _ _ _ _ _ _ _ _ _ _ _ _ _ _ _ _ _ _ _ _ _ _ _ _ _ _ _ _ _ _ _ _ _ _ _ _ _ _ _ _ _ _ _ _ _ _ _ _ _ _ _ _ _ _ _ _ _ _ _ _ _ _ _ _ _ _ _ _ _ _ _ _ _ _ _ _ _ _ _ _ _ _ _ _ _ _ _ _ _ _ _ _ _ _ _ _ _ _ _ _ _ _ _ _ _ _ _ _ _ _ _ _ _ _ _ _ _ _ _ _ _ _ _ _ _ _ _ _ _ _ _ _ _ _ _ _ _ _ _ _ _ _ _ _ _ _ _ _ _ _ _ _ _ _ _ _ _ _ _ _ _ _ _ _ _ _ _ _ _ _ _ _ _ _ _ _ _ _ _ _ _ _ _ _ _ _ _ _ _ _ _ _ _ _ _ _ _ _ _ _ HPOST.out
          · omega
          · omega
          · rcases HM.out with ⟨h1, h2⟩ | ⟨h1, h2⟩
            · exact Or.inl ⟨h1, h2⟩
            · exact Or.inr ⟨h1, by omega⟩)
      | succ k =>
        obtain ⟨z, hZ, hz, hz1, hz2⟩ := dig_at S ((p + 1 + 1) + t) (by omega) (HSP.out.all ((p + 1 + 1) + t) (by omega) (by omega))
        have hlt : (((p + 1 + 1) + t : Nat) : Int) < (S.size : Int) := by omega
        have h95 : ((z : Int) == 95) = false := by rw [beq_eq_false_iff_ne]; omega
        have hnext : eAt S (p + 1 + 1) (t + 1) = if eAt S (p + 1 + 1) t < 10000 then eAt S (p + 1 + 1) t * 10 + (ch S ((p + 1 + 1) + t) - 48) else eAt S (p + 1 + 1) t := rfl
        rw [hZ] at hnext
        obtain ⟨v, hv⟩ : ∃ v, eAt S (p + 1 + 1) t = v := ⟨_, rfl⟩
        rw [hv] at hnext hev ⊢
        by_cases h10 : v < 10000
        · rw [if_pos h10] at hnext
          have h10' : (v : Int) < 10000 := by omega
          have HN := Lib.hid hnext
          clear hv hnext hZ h10
          go_wp2_with fail
          go_roundg k
          case measure => omega
          case rel => exact ⟨t + 1, by omega, by first | rfl | (congr 1; omega), rfl, by rw [HN.out]; congr 1; omega, rfl⟩
        · rw [if_neg h10] at hnext
          have h10' : ¬ (v : Int) < 10000 := by omega
          have HN := Lib.hid hnext
          clear hv hnext hZ h10
          go_wp2_with fail
          go_roundg k
          case measure => omega
          case rel => exact ⟨t + 1, by omega, by first | rfl | (congr 1; omega), rfl, by rw [HN.out], rfl⟩

set_option maxRecDepth 100000 in
set_option maxHeartbeats 4000000 in
theorem rf_exp3 (S : ByteArray) (hS : Numeric S) (neg : Bool) (st : RS) (p j : Nat) (_ : p ≤ S.size) (hs : ROk st j) (hj : j ≤ 2000) (e : Nat) (d E : Int) (hd : st.dig = true) (hpt : st.point = d) (hy : p + 1 < S.size) (he : isE (ch S p)) (h43 : ch S (p + 1) ≠ 43) (h45 : ch S (p + 1) ≠ 45) (hsp : Span digN S (p + 1) e) (hqe : p + 1 < e) (hE : st.expo (d + (eAt S (p + 1) (e - (p + 1)) : Nat) * (if sgnB (ch S (p + 1)) then -1 else 1)) = E)
    (w : World) (post : Ending → World → Prop) (u1 u18 u19 u20 u21 u22 u23 u24 u25 u26 u27 u28 u29 u30 u31 u32 u33 u34 u35 u36 u37 u38 u39 u40 u41 u42 u43 u44 u45 u46 u47 u48 u49 u50 u51 u52 u53 u54 u55 u56 u57 u58 u59 u60 u61 u62 u63 u64 u65 u66 u67 u68 u69 u70 u71 u72 u73 u74 u75 u76 u77 u78 u79 u80 u81 u82 u83 u84 u85 u86 u87 u88 u89 u90 u91 u92 u93 u94 u95 u96 u97 u98 u99 u100 u101 u102 u103 u104 u105 u106 u107 u108 u109 u110 u111 u112 u113 u114 u115 u116 u117 u118 u119 u120 u121 u122 u123 u124 u125 u126 u127 u128 u129 u130 u131 u132 u133 u134 u135 u136 u137 u138 u139 u140 u141 u142 u143 u144 u145 u146 u147 u148 u149 u150 u151 u152 u153 u154 u155 u156 u157 u158 u159 u160 u161 u162 u163 u164 u165 u166 u167 u168 u169 u170 u171 u172 u173 u174 u175 u176 u177 u178 u179 u180 u181 u182 u183 u184 u185 u186 u187 u188 u189 u190 u191 u192 u193 u194 u195 u196 u197 u198 u199 u200 u201 u202 u203 u204 u205 u206 u207 u208 u209 u210 u211 u212 u213 u214 u215 u216 u217 u218 u219 u220 u221 u222 u223 u224 u225 u226 u227 u228 u229 u230 u231 u232 u233 u234 u235 u236 u237 u238 u239 u240 u241 u242 u243 u244 u245 u246 u247 u248 u249 u250 u251 u252 : Value)
    (hpost : post (.returned (RF.val ⟨st.m, E, neg, st.tr, e, true⟩)) w) :
    Code.wp Tryz.prog rfTail (bodyPost Tryz.prog Tryz.f52 post) ⟨#[.string S, u1, .int .u64 (st.m : Int), .int .i64 0, .bool neg, .bool st.tr, .bool false, .int .i64 (p : Int), .bool false, .bool false, .int .u64 10, .int .i64 19, .int .u8 101, .bool st.dot, .bool st.dig, .int .i64 (st.nd : Int), .int .i64 (st.nm : Int), .int .i64 st.dp, u18, u19, u20, u21, u22, u23, u24, u25, u26, u27, u28, u29, u30, u31, u32, u33, u34, u35, u36, u37, u38, u39, u40, u41, u42, u43, u44, u45, u46, u47, u48, u49, u50, u51, u52, u53, u54, u55, u56, u57, u58, u59, u60, u61, u62, u63, u64, u65, u66, u67, u68, u69, u70, u71, u72, u73, u74, u75, u76, u77, u78, u79, u80, u81, u82, u83, u84, u85, u86, u87, u88, u89, u90, u91, u92, u93, u94, u95, u96, u97, u98, u99, u100, u101, u102, u103, u104, u105, u106, u107, u108, u109, u110, u111, u112, u113, u114, u115, u116, u117, u118, u119, u120, u121, u122, u123, u124, u125, u126, u127, u128, u129, u130, u131, u132, u133, u134, u135, u136, u137, u138, u139, u140, u141, u142, u143, u144, u145, u146, u147, u148, u149, u150, u151, u152, u153, u154, u155, u156, u157, u158, u159, u160, u161, u162, u163, u164, u165, u166, u167, u168, u169, u170, u171, u172, u173, u174, u175, u176, u177, u178, u179, u180, u181, u182, u183, u184, u185, u186, u187, u188, u189, u190, u191, u192, u193, u194, u195, u196, u197, u198, u199, u200, u201, u202, u203, u204, u205, u206, u207, u208, u209, u210, u211, u212, u213, u214, u215, u216, u217, u218, u219, u220, u221, u222, u223, u224, u225, u226, u227, u228, u229, u230, u231, u232, u233, u234, u235, u236, u237, u238, u239, u240, u241, u242, u243, u244, u245, u246, u247, u248, u249, u250, u251, u252], []⟩ w := by
  have HNUM := Lib.hid hS
  have HPOST := Lib.hid hpost
  have hsz := hS.1
  clear hS hpost
  have hm20 := hs.m20
  have hnd := hs.nd
  have hnm := hs.nm
  have hd0 := hs.d0
  have hd1 := hs.d1
  clear hs
  obtain ⟨dot, dig, tr, nd, nm, dp, m⟩ := st
  simp only at hm20 hnd hnm hd0 hd1 ⊢
  simp only at hd
  subst hd
  have hlt : p < S.size := by omega
  obtain ⟨y, l, _, hyi, hlow, hle, hln⟩ := lower_at S HNUM.out p hlt
  have hl := hle he
  subst hl
  have hlt' : (p : Int) < (S.size : Int) := by omega
  have hlt2 : (p : Int) + 1 < (S.size : Int) := by omega
  have hlw := hlow w
  have hpd : -2000 ≤ d ∧ d ≤ 2000 := by
    unfold RS.point at hpt
    simp only at hpt
    split at hpt <;> omega
  have hesz := hsp.end_le
  have HSP := Lib.hid hsp
  clear hle hln hlow he
  have hpt2 : (dot = false ∧ d = nd) ∨ (dot = true ∧ d = dp) := by
    unfold RS.point at hpt
    cases dot
    · exact Or.inl ⟨rfl, by simpa using hpt.symm⟩
    · exact Or.inr ⟨rfl, by simpa using hpt.symm⟩
  clear hpt
  have hch := ch_eq S (p + 1) hy
  have hg : (if sgnB (ch S (p + 1)) then -1 else 1 : Int) = 1 := by
    have : sgnB (ch S (p + 1)) = false := decide_eq_false h45
    rw [this]; rfl
  obtain ⟨c, hcc⟩ : ∃ c, ch S (p + 1) = c := ⟨_, rfl⟩
  rw [hcc] at hch h43 h45
  have hci : ((S[p + 1]'hy).toNat : Int) = c := by omega
  have hc1 : ((c : Int) == 43) = false := by rw [beq_eq_false_iff_ne]; omega
  have hc2 : ((c : Int) == 45) = false := by rw [beq_eq_false_iff_ne]; omega
  clear h43 h45 hch hcc
  rw [hg] at hE
  obtain ⟨hE1, hE2⟩ := expo_facts _ _ _ hE
  simp only at hE1 hE2
  obtain ⟨z, -, hz, hz1, hz2⟩ := dig_at S _ (by omega) (HSP.out.all _ (Nat.le_refl _) hqe)
  have hb1 : decide (S.size ≤ (p + 1)) = false := decide_eq_false (by omega)
  have hb1' : decide ((S.size : Int) ≤ (p : Int) + 1) = false := decide_eq_false (by omega)
  have hb2 : decide ((z : Int) < 48) = false := decide_eq_false (by omega)
  have hb3 : decide ((57 : Int) < (z : Int)) = false := decide_eq_false (by omega)
  have HE2 := Lib.hid (And.intro hE1 hE2)
  clear hE hE1 hE2 hg hsp
  obtain ⟨n, hn⟩ : ∃ n, e - (p + 1) = n := ⟨_, rfl⟩
  rw [hn] at HE2
  conv => arg 2; whnf
  conv => arg 4; dsimp only
  go_upto_if 142 with fail
  go_cut [17] (fun v wx => v = .int .i64 d ∧ wx = w)
  case first =>
    rcases hpt2 with ⟨rfl, rfl⟩ | ⟨rfl, rfl⟩
    all_goals (
      go_wp2_with fail
      go_meet
      exact ⟨rfl, rfl⟩)
  case rest =>
    obtain ⟨rfl, rfl⟩ := hcut
    go_wp2_with fail
    refine hlw.mono ?_
    rintro en w' ⟨rfl, rfl⟩
    go_upto_region 58 with fail
    rename_i K1 hK1 K2 hK2
    have HK := Lib.hid hK1
    clear hK1
    go_wp2_with fail
    go_loopg [7, 9, 20] n (fun k vi vu ve wr => ∃ t : Nat, k + t = n ∧ vi = .int .i64 ((p + 1) + t : Nat) ∧ vu = .bool false ∧ ve = .int .i64 (eAt S (p + 1) t : Nat) ∧ wr = w')
    case atStart => exact ⟨0, by omega, by first | rfl | (congr 1; omega), rfl, rfl, rfl⟩
    case round =>
      clear hz hz1 hz2 hb1 hb1' hb2 hb3
      obtain ⟨t, ht, rfl, rfl, rfl, rfl⟩ := hrel
      have hev := eAt_le S (p + 1) n (fun i hi => HSP.out.all ((p + 1) + i) (by omega) (by omega)) t (by omega)
      cases gk with
      | zero =>
        have htn : t = n := by omega
        subst htn
        have hqe2 : (p + 1) + t = e := by omega
        rw [hqe2]
        have he2 := HE2.out
        obtain ⟨v, hv⟩ : ∃ v, eAt S (p + 1) t = v := ⟨_, rfl⟩
        rw [hv] at he2 hev ⊢
        have hm : ((m : Int) != 0) = false ∧ E = 0 ∨ ((m : Int) != 0) = true ∧ E = d + (v : Int) * 1 - nm := by
          rcases Nat.eq_zero_or_pos m with h | h
          · subst h
            exact Or.inl ⟨rfl, he2.1 rfl⟩
          · refine Or.inr ⟨?_, he2.2 (by omega)⟩
            rw [bne_iff_ne]
            omega
        have hstop : (e : Int) = (S.size : Int) ∨ ∃ hes : e < S.size, ∃ z : Nat, ((S[e]'hes).toNat : Int) = z ∧ ((z : Int) == 95) = false ∧ ((z : Int) < 48 ∨ 48 ≤ (z : Int) ∧ 57 < (z : Int)) := by
          rcases Nat.lt_or_ge e S.size with h1 | h1
          · have h2 := HSP.out.stop
            have h3 := ch_eq S e h1
            have h4 := HNUM.out.2 e h1
            refine Or.inr ⟨h1, ch S e, by omega, ?_, ?_⟩
            · rw [beq_eq_false_iff_ne]
              unfold numN digN at h4
              omega
            · rcases h2 with h2 | h2
              · omega
              · unfold digN at h2
                omega
          · exact Or.inl (by omega)
        clear he2 hv HE2 HSP hqe2 ht hn
        rcases hstop with hs | ⟨hes, z, hz, h95, hz1 | ⟨hz1, hz2⟩⟩
        all_goals (
          have HM := Lib.hid hm
          clear hm
          go_wp2_with fail
          refine HK.out _ _ ?_
          refine rf_end S neg tr m nm e _ E hm20 hnm ?_ ?_ ?_ _ _ _ _ _ _ _ _ _ _ _ _ _ _ _ _ _ _ _ _ _ _ _ _ _ _ _ _ _ _ _ _ _ _ _ _ _ _ _ _ _ _ _ _ _ _ _ _ _ _ _ _ _ _ _ _ _ _ _ _ _ _ _ _ _ _ _ _ _ _ _ _ _ _ _ _ _ _ _ _ _ _ _ _ _ _ _ _ _ _ _ _ _ _ _ _ _ _ _ _ _ _ _ _ _ _ _ _ _ _ _ _ _ _ _ _ _ _ _ _ _ _ _ _ _ _ _ _ _ _ _ _ _ _ _ _ _ _ _ _ _ _ _ _ _ _ _ _ _ _ _ _ _ _ _ _ _ _ _ _ _ _ _ _ _ _ _ _ _ _ _ _ _ _ _ _ _ _ _ _ _ _ _ _ _ _ _ _ _ _ _ _ _ _ _ _ _ _ _ _ _ _ _ _ _ _ _ _ _ _ _ _ _ _ _ _ _ _ _ _ _ _ _ _ _ _ _ _ _ _ _ _ _ _ _ _ _ _ _ _ _ _ _ _ HPOST.out
          · omega
          · omega
          · rcases HM.out with ⟨h1, h2⟩ | ⟨h1, h2⟩
            · exact Or.inl ⟨h1, h2⟩
            · exact Or.inr ⟨h1, by omega⟩)
      | succ k =>
        obtain ⟨z, hZ, hz, hz1, hz2⟩ := dig_at S ((p + 1) + t) (by omega) (HSP.out.all ((p + 1) + t) (by omega) (by omega))
        have hlt : (((p + 1) + t : Nat) : Int) < (S.size : Int) := by omega
        have h95 : ((z : Int) == 95) = false := by rw [beq_eq_false_iff_ne]; omega
        have hnext : eAt S (p + 1) (t + 1) = if eAt S (p + 1) t < 10000 then eAt S (p + 1) t * 10 + (ch S ((p + 1) + t) - 48) else eAt S (p + 1) t := rfl
        rw [hZ] at hnext
        obtain ⟨v, hv⟩ : ∃ v, eAt S (p + 1) t = v := ⟨_, rfl⟩
        rw [hv] at hnext hev ⊢
        by_cases h10 : v < 10000
        · rw [if_pos h10] at hnext
          have h10' : (v : Int) < 10000 := by omega
          have HN := Lib.hid hnext
          clear hv hnext hZ h10
          go_wp2_with fail
          go_roundg k
          case measure => omega
          case rel => exact ⟨t + 1, by omega, by first | rfl | (congr 1; omega), rfl, by rw [HN.out]; congr 1; omega, rfl⟩
        · rw [if_neg h10] at hnext
          have h10' : ¬ (v : Int) < 10000 := by omega
          have HN := Lib.hid hnext
          clear hv hnext hZ h10
          go_wp2_with fail
          go_roundg k
          case measure => omega
          case rel => exact ⟨t + 1, by omega, by first | rfl | (congr 1; omega), rfl, by rw [HN.out], rfl⟩

theorem rf_rest (S : ByteArray) (hS : Numeric S) (neg : Bool) (st : RS) (p j : Nat) (hp : p ≤ S.size) (hs : ROk st j) (hj : j ≤ 2000) (r : RF) (hr : RRest S neg st p r) (w : World) (post : Ending → World → Prop) (u1 u18 u19 u20 u21 u22 u23 u24 u25 u26 u27 u28 u29 u30 u31 u32 u33 u34 u35 u36 u37 u38 u39 u40 u41 u42 u43 u44 u45 u46 u47 u48 u49 u50 u51 u52 u53 u54 u55 u56 u57 u58 u59 u60 u61 u62 u63 u64 u65 u66 u67 u68 u69 u70 u71 u72 u73 u74 u75 u76 u77 u78 u79 u80 u81 u82 u83 u84 u85 u86 u87 u88 u89 u90 u91 u92 u93 u94 u95 u96 u97 u98 u99 u100 u101 u102 u103 u104 u105 u106 u107 u108 u109 u110 u111 u112 u113 u114 u115 u116 u117 u118 u119 u120 u121 u122 u123 u124 u125 u126 u127 u128 u129 u130 u131 u132 u133 u134 u135 u136 u137 u138 u139 u140 u141 u142 u143 u144 u145 u146 u147 u148 u149 u150 u151 u152 u153 u154 u155 u156 u157 u158 u159 u160 u161 u162 u163 u164 u165 u166 u167 u168 u169 u170 u171 u172 u173 u174 u175 u176 u177 u178 u179 u180 u181 u182 u183 u184 u185 u186 u187 u188 u189 u190 u191 u192 u193 u194 u195 u196 u197 u198 u199 u200 u201 u202 u203 u204 u205 u206 u207 u208 u209 u210 u211 u212 u213 u214 u215 u216 u217 u218 u219 u220 u221 u222 u223 u224 u225 u226 u227 u228 u229 u230 u231 u232 u233 u234 u235 u236 u237 u238 u239 u240 u241 u242 u243 u244 u245 u246 u247 u248 u249 u250 u251 u252 : Value)
    (hpost : post (.returned (RF.val r)) w) :
    Code.wp Tryz.prog rfTail (bodyPost Tryz.prog Tryz.f52 post) ⟨#[.string S, u1, .int .u64 (st.m : Int), .int .i64 0, .bool neg, .bool st.tr, .bool false, .int .i64 (p : Int), .bool false, .bool false, .int .u64 10, .int .i64 19, .int .u8 101, .bool st.dot, .bool st.dig, .int .i64 (st.nd : Int), .int .i64 (st.nm : Int), .int .i64 st.dp, u18, u19, u20, u21, u22, u23, u24, u25, u26, u27, u28, u29, u30, u31, u32, u33, u34, u35, u36, u37, u38, u39, u40, u41, u42, u43, u44, u45, u46, u47, u48, u49, u50, u51, u52, u53, u54, u55, u56, u57, u58, u59, u60, u61, u62, u63, u64, u65, u66, u67, u68, u69, u70, u71, u72, u73, u74, u75, u76, u77, u78, u79, u80, u81, u82, u83, u84, u85, u86, u87, u88, u89, u90, u91, u92, u93, u94, u95, u96, u97, u98, u99, u100, u101, u102, u103, u104, u105, u106, u107, u108, u109, u110, u111, u112, u113, u114, u115, u116, u117, u118, u119, u120, u121, u122, u123, u124, u125, u126, u127, u128, u129, u130, u131, u132, u133, u134, u135, u136, u137, u138, u139, u140, u141, u142, u143, u144, u145, u146, u147, u148, u149, u150, u151, u152, u153, u154, u155, u156, u157, u158, u159, u160, u161, u162, u163, u164, u165, u166, u167, u168, u169, u170, u171, u172, u173, u174, u175, u176, u177, u178, u179, u180, u181, u182, u183, u184, u185, u186, u187, u188, u189, u190, u191, u192, u193, u194, u195, u196, u197, u198, u199, u200, u201, u202, u203, u204, u205, u206, u207, u208, u209, u210, u211, u212, u213, u214, u215, u216, u217, u218, u219, u220, u221, u222, u223, u224, u225, u226, u227, u228, u229, u230, u231, u232, u233, u234, u235, u236, u237, u238, u239, u240, u241, u242, u243, u244, u245, u246, u247, u248, u249, u250, u251, u252], []⟩ w := by
  cases hr with
  | nodig h => exact rf_nodig S hS neg st p j hp hs hj h w post u1 u18 u19 u20 u21 u22 u23 u24 u25 u26 u27 u28 u29 u30 u31 u32 u33 u34 u35 u36 u37 u38 u39 u40 u41 u42 u43 u44 u45 u46 u47 u48 u49 u50 u51 u52 u53 u54 u55 u56 u57 u58 u59 u60 u61 u62 u63 u64 u65 u66 u67 u68 u69 u70 u71 u72 u73 u74 u75 u76 u77 u78 u79 u80 u81 u82 u83 u84 u85 u86 u87 u88 u89 u90 u91 u92 u93 u94 u95 u96 u97 u98 u99 u100 u101 u102 u103 u104 u105 u106 u107 u108 u109 u110 u111 u112 u113 u114 u115 u116 u117 u118 u119 u120 u121 u122 u123 u124 u125 u126 u127 u128 u129 u130 u131 u132 u133 u134 u135 u136 u137 u138 u139 u140 u141 u142 u143 u144 u145 u146 u147 u148 u149 u150 u151 u152 u153 u154 u155 u156 u157 u158 u159 u160 u161 u162 u163 u164 u165 u166 u167 u168 u169 u170 u171 u172 u173 u174 u175 u176 u177 u178 u179 u180 u181 u182 u183 u184 u185 u186 u187 u188 u189 u190 u191 u192 u193 u194 u195 u196 u197 u198 u199 u200 u201 u202 u203 u204 u205 u206 u207 u208 u209 u210 u211 u212 u213 u214 u215 u216 u217 u218 u219 u220 u221 u222 u223 u224 u225 u226 u227 u228 u229 u230 u231 u232 u233 u234 u235 u236 u237 u238 u239 u240 u241 u242 u243 u244 u245 u246 u247 u248 u249 u250 u251 u252 hpost
  | plain h1 h2 => exact rf_plain S hS neg st p j hp hs hj _ _ h1 rfl rfl h2 w post u1 u18 u19 u20 u21 u22 u23 u24 u25 u26 u27 u28 u29 u30 u31 u32 u33 u34 u35 u36 u37 u38 u39 u40 u41 u42 u43 u44 u45 u46 u47 u48 u49 u50 u51 u52 u53 u54 u55 u56 u57 u58 u59 u60 u61 u62 u63 u64 u65 u66 u67 u68 u69 u70 u71 u72 u73 u74 u75 u76 u77 u78 u79 u80 u81 u82 u83 u84 u85 u86 u87 u88 u89 u90 u91 u92 u93 u94 u95 u96 u97 u98 u99 u100 u101 u102 u103 u104 u105 u106 u107 u108 u109 u110 u111 u112 u113 u114 u115 u116 u117 u118 u119 u120 u121 u122 u123 u124 u125 u126 u127 u128 u129 u130 u131 u132 u133 u134 u135 u136 u137 u138 u139 u140 u141 u142 u143 u144 u145 u146 u147 u148 u149 u150 u151 u152 u153 u154 u155 u156 u157 u158 u159 u160 u161 u162 u163 u164 u165 u166 u167 u168 u169 u170 u171 u172 u173 u174 u175 u176 u177 u178 u179 u180 u181 u182 u183 u184 u185 u186 u187 u188 u189 u190 u191 u192 u193 u194 u195 u196 u197 u198 u199 u200 u201 u202 u203 u204 u205 u206 u207 u208 u209 u210 u211 u212 u213 u214 u215 u216 u217 u218 u219 u220 u221 u222 u223 u224 u225 u226 u227 u228 u229 u230 u231 u232 u233 u234 u235 u236 u237 u238 u239 u240 u241 u242 u243 u244 u245 u246 u247 u248 u249 u250 u251 u252 hpost
  | short h1 h2 h3 => exact rf_short S hS neg st p j hp hs hj h1 h2 h3 w post u1 u18 u19 u20 u21 u22 u23 u24 u25 u26 u27 u28 u29 u30 u31 u32 u33 u34 u35 u36 u37 u38 u39 u40 u41 u42 u43 u44 u45 u46 u47 u48 u49 u50 u51 u52 u53 u54 u55 u56 u57 u58 u59 u60 u61 u62 u63 u64 u65 u66 u67 u68 u69 u70 u71 u72 u73 u74 u75 u76 u77 u78 u79 u80 u81 u82 u83 u84 u85 u86 u87 u88 u89 u90 u91 u92 u93 u94 u95 u96 u97 u98 u99 u100 u101 u102 u103 u104 u105 u106 u107 u108 u109 u110 u111 u112 u113 u114 u115 u116 u117 u118 u119 u120 u121 u122 u123 u124 u125 u126 u127 u128 u129 u130 u131 u132 u133 u134 u135 u136 u137 u138 u139 u140 u141 u142 u143 u144 u145 u146 u147 u148 u149 u150 u151 u152 u153 u154 u155 u156 u157 u158 u159 u160 u161 u162 u163 u164 u165 u166 u167 u168 u169 u170 u171 u172 u173 u174 u175 u176 u177 u178 u179 u180 u181 u182 u183 u184 u185 u186 u187 u188 u189 u190 u191 u192 u193 u194 u195 u196 u197 u198 u199 u200 u201 u202 u203 u204 u205 u206 u207 u208 u209 u210 u211 u212 u213 u214 u215 u216 u217 u218 u219 u220 u221 u222 u223 u224 u225 u226 u227 u228 u229 u230 u231 u232 u233 u234 u235 u236 u237 u238 u239 u240 u241 u242 u243 u244 u245 u246 u247 u248 u249 u250 u251 u252 hpost
  | bad h1 h2 h3 h4 => exact rf_bad S hS neg st p j hp hs hj _ h1 h2 h3 rfl h4 w post u1 u18 u19 u20 u21 u22 u23 u24 u25 u26 u27 u28 u29 u30 u31 u32 u33 u34 u35 u36 u37 u38 u39 u40 u41 u42 u43 u44 u45 u46 u47 u48 u49 u50 u51 u52 u53 u54 u55 u56 u57 u58 u59 u60 u61 u62 u63 u64 u65 u66 u67 u68 u69 u70 u71 u72 u73 u74 u75 u76 u77 u78 u79 u80 u81 u82 u83 u84 u85 u86 u87 u88 u89 u90 u91 u92 u93 u94 u95 u96 u97 u98 u99 u100 u101 u102 u103 u104 u105 u106 u107 u108 u109 u110 u111 u112 u113 u114 u115 u116 u117 u118 u119 u120 u121 u122 u123 u124 u125 u126 u127 u128 u129 u130 u131 u132 u133 u134 u135 u136 u137 u138 u139 u140 u141 u142 u143 u144 u145 u146 u147 u148 u149 u150 u151 u152 u153 u154 u155 u156 u157 u158 u159 u160 u161 u162 u163 u164 u165 u166 u167 u168 u169 u170 u171 u172 u173 u174 u175 u176 u177 u178 u179 u180 u181 u182 u183 u184 u185 u186 u187 u188 u189 u190 u191 u192 u193 u194 u195 u196 u197 u198 u199 u200 u201 u202 u203 u204 u205 u206 u207 u208 u209 u210 u211 u212 u213 u214 u215 u216 u217 u218 u219 u220 u221 u222 u223 u224 u225 u226 u227 u228 u229 u230 u231 u232 u233 u234 u235 u236 u237 u238 u239 u240 u241 u242 u243 u244 u245 u246 u247 u248 u249 u250 u251 u252 hpost
  | exp h1 h2 h3 h4 h5 =>
    by_cases h43 : ch S (p + 1) = 43
    · have e : sgnI (ch S (p + 1)) (p + 1) = p + 1 + 1 := by rw [h43]; rfl
      rw [e] at h4 h5 hpost
      exact rf_exp1 S hS neg st p j hp hs hj _ _ _ h1 rfl h2 h3 h43 h4 h5 rfl w post u1 u18 u19 u20 u21 u22 u23 u24 u25 u26 u27 u28 u29 u30 u31 u32 u33 u34 u35 u36 u37 u38 u39 u40 u41 u42 u43 u44 u45 u46 u47 u48 u49 u50 u51 u52 u53 u54 u55 u56 u57 u58 u59 u60 u61 u62 u63 u64 u65 u66 u67 u68 u69 u70 u71 u72 u73 u74 u75 u76 u77 u78 u79 u80 u81 u82 u83 u84 u85 u86 u87 u88 u89 u90 u91 u92 u93 u94 u95 u96 u97 u98 u99 u100 u101 u102 u103 u104 u105 u106 u107 u108 u109 u110 u111 u112 u113 u114 u115 u116 u117 u118 u119 u120 u121 u122 u123 u124 u125 u126 u127 u128 u129 u130 u131 u132 u133 u134 u135 u136 u137 u138 u139 u140 u141 u142 u143 u144 u145 u146 u147 u148 u149 u150 u151 u152 u153 u154 u155 u156 u157 u158 u159 u160 u161 u162 u163 u164 u165 u166 u167 u168 u169 u170 u171 u172 u173 u174 u175 u176 u177 u178 u179 u180 u181 u182 u183 u184 u185 u186 u187 u188 u189 u190 u191 u192 u193 u194 u195 u196 u197 u198 u199 u200 u201 u202 u203 u204 u205 u206 u207 u208 u209 u210 u211 u212 u213 u214 u215 u216 u217 u218 u219 u220 u221 u222 u223 u224 u225 u226 u227 u228 u229 u230 u231 u232 u233 u234 u235 u236 u237 u238 u239 u240 u241 u242 u243 u244 u245 u246 u247 u248 u249 u250 u251 u252 hpost
    · by_cases h45 : ch S (p + 1) = 45
      · have e : sgnI (ch S (p + 1)) (p + 1) = p + 1 + 1 := by rw [h45]; rfl
        rw [e] at h4 h5 hpost
        exact rf_exp2 S hS neg st p j hp hs hj _ _ _ h1 rfl h2 h3 h45 h4 h5 rfl w post u1 u18 u19 u20 u21 u22 u23 u24 u25 u26 u27 u28 u29 u30 u31 u32 u33 u34 u35 u36 u37 u38 u39 u40 u41 u42 u43 u44 u45 u46 u47 u48 u49 u50 u51 u52 u53 u54 u55 u56 u57 u58 u59 u60 u61 u62 u63 u64 u65 u66 u67 u68 u69 u70 u71 u72 u73 u74 u75 u76 u77 u78 u79 u80 u81 u82 u83 u84 u85 u86 u87 u88 u89 u90 u91 u92 u93 u94 u95 u96 u97 u98 u99 u100 u101 u102 u103 u104 u105 u106 u107 u108 u109 u110 u111 u112 u113 u114 u115 u116 u117 u118 u119 u120 u121 u122 u123 u124 u125 u126 u127 u128 u129 u130 u131 u132 u133 u134 u135 u136 u137 u138 u139 u140 u141 u142 u143 u144 u145 u146 u147 u148 u149 u150 u151 u152 u153 u154 u155 u156 u157 u158 u159 u160 u161 u162 u163 u164 u165 u166 u167 u168 u169 u170 u171 u172 u173 u174 u175 u176 u177 u178 u179 u180 u181 u182 u183 u184 u185 u186 u187 u188 u189 u190 u191 u192 u193 u194 u195 u196 u197 u198 u199 u200 u201 u202 u203 u204 u205 u206 u207 u208 u209 u210 u211 u212 u213 u214 u215 u216 u217 u218 u219 u220 u221 u222 u223 u224 u225 u226 u227 u228 u229 u230 u231 u232 u233 u234 u235 u236 u237 u238 u239 u240 u241 u242 u243 u244 u245 u246 u247 u248 u249 u250 u251 u252 hpost
      · have e : sgnI (ch S (p + 1)) (p + 1) = p + 1 := by unfold sgnI; rw [if_neg (by omega)]
        rw [e] at h4 h5 hpost
        exact rf_exp3 S hS neg st p j hp hs hj _ _ _ h1 rfl h2 h3 h43 h45 h4 h5 rfl w post u1 u18 u19 u20 u21 u22 u23 u24 u25 u26 u27 u28 u29 u30 u31 u32 u33 u34 u35 u36 u37 u38 u39 u40 u41 u42 u43 u44 u45 u46 u47 u48 u49 u50 u51 u52 u53 u54 u55 u56 u57 u58 u59 u60 u61 u62 u63 u64 u65 u66 u67 u68 u69 u70 u71 u72 u73 u74 u75 u76 u77 u78 u79 u80 u81 u82 u83 u84 u85 u86 u87 u88 u89 u90 u91 u92 u93 u94 u95 u96 u97 u98 u99 u100 u101 u102 u103 u104 u105 u106 u107 u108 u109 u110 u111 u112 u113 u114 u115 u116 u117 u118 u119 u120 u121 u122 u123 u124 u125 u126 u127 u128 u129 u130 u131 u132 u133 u134 u135 u136 u137 u138 u139 u140 u141 u142 u143 u144 u145 u146 u147 u148 u149 u150 u151 u152 u153 u154 u155 u156 u157 u158 u159 u160 u161 u162 u163 u164 u165 u166 u167 u168 u169 u170 u171 u172 u173 u174 u175 u176 u177 u178 u179 u180 u181 u182 u183 u184 u185 u186 u187 u188 u189 u190 u191 u192 u193 u194 u195 u196 u197 u198 u199 u200 u201 u202 u203 u204 u205 u206 u207 u208 u209 u210 u211 u212 u213 u214 u215 u216 u217 u218 u219 u220 u221 u222 u223 u224 u225 u226 u227 u228 u229 u230 u231 u232 u233 u234 u235 u236 u237 u238 u239 u240 u241 u242 u243 u244 u245 u246 u247 u248 u249 u250 u251 u252 hpost
end Go.Proofs.YtodihpaabkplhaaGreatDoor
