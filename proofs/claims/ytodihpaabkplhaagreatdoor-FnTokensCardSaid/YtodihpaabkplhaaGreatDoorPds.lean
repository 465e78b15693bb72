/- decimal.set of a text that is a number. -/
import Derived.Test.YtodihpaabkplhaaGreatDoorPdd
import Derived.Test.YtodihpaabkplhaaGreatDoorCod
import Derived.Deep.DeepCutAuto
import Derived.Deep.CutBlock
import Derived.WalkMore
import Derived.RegionTactic
namespace Go.Proofs.YtodihpaabkplhaaGreatDoor
open Go.RowKit

noncomputable def dsTail : Code := (Tryz.f58.body.bind (seqAt 29)).getD .skip
noncomputable def dsMain : Code := (Tryz.f58.body.bind (seqAt 13)).getD .skip

set_option maxRecDepth 100000 in
set_option maxHeartbeats 4000000 in
theorem ds_plain (S : ByteArray) (hS : Numeric S) (neg : Bool) (st : DS) (p j b : Nat) (_ : p ≤ S.size) (hs : DOk st j) (hj : j ≤ 2000) (d : Int) (hd : st.dig = true) (hpt : st.point = d) (hy : p = S.size)
    (w : World) (post : Ending → World → Prop) (u2 u3 u8 u9 u10 u11 u12 u13 u14 u15 u16 u17 u18 u19 u20 u21 u22 u23 u24 u25 u26 u27 u28 u29 u30 u31 u32 u33 u34 u35 u36 u37 u38 u39 u40 u41 u42 u43 u44 u45 u46 u47 u48 u49 u50 u51 u52 u53 u54 u55 u56 u57 u58 u59 u60 u61 u62 u63 u64 u65 u66 u67 u68 u69 u70 u71 u72 u73 u74 u75 u76 u77 u78 u79 u80 u81 u82 u83 u84 u85 u86 u87 u88 u89 u90 u91 u92 u93 u94 u95 u96 u97 u98 u99 u100 u101 u102 u103 u104 u105 u106 u107 u108 u109 u110 u111 u112 u113 u114 u115 u116 u117 u118 u119 u120 u121 u122 u123 u124 u125 u126 u127 u128 u129 u130 u131 u132 u133 u134 u135 u136 u137 u138 u139 u140 u141 u142 u143 u144 u145 u146 u147 u148 u149 u150 u151 u152 u153 u154 u155 u156 u157 u158 u159 u160 u161 u162 u163 u164 u165 u166 u167 u168 u169 u170 u171 u172 u173 u174 u175 u176 u177 u178 u179 u180 u181 u182 u183 u184 u185 u186 u187 u188 u189 u190 u191 u192 u193 u194 u195 u196 u197 u198 u199 u200 u201 u202 u203 u204 u205 u206 u207 u208 u209 u210 u211 u212 u213 u214 u215 u216 u217 u218 u219 u220 u221 u222 u223 : Value) (hd0 : DecAt w b (st.dec neg))
    (hpost : ∀ w', DecAt w' b (st.at neg d) → Below b w w' → post (.returned (.bool true)) w') :
    Code.wp Tryz.prog dsTail (bodyPost Tryz.prog Tryz.f58 post) ⟨#[.pointer (some ⟨b, 0, none⟩), .string S, u2, u3, .bool false, .int .i64 (p : Int), .bool st.dot, .bool st.dig, u8, u9, u10, u11, u12, u13, u14, u15, u16, u17, u18, u19, u20, u21, u22, u23, u24, u25, u26, u27, u28, u29, u30, u31, u32, u33, u34, u35, u36, u37, u38, u39, u40, u41, u42, u43, u44, u45, u46, u47, u48, u49, u50, u51, u52, u53, u54, u55, u56, u57, u58, u59, u60, u61, u62, u63, u64, u65, u66, u67, u68, u69, u70, u71, u72, u73, u74, u75, u76, u77, u78, u79, u80, u81, u82, u83, u84, u85, u86, u87, u88, u89, u90, u91, u92, u93, u94, u95, u96, u97, u98, u99, u100, u101, u102, u103, u104, u105, u106, u107, u108, u109, u110, u111, u112, u113, u114, u115, u116, u117, u118, u119, u120, u121, u122, u123, u124, u125, u126, u127, u128, u129, u130, u131, u132, u133, u134, u135, u136, u137, u138, u139, u140, u141, u142, u143, u144, u145, u146, u147, u148, u149, u150, u151, u152, u153, u154, u155, u156, u157, u158, u159, u160, u161, u162, u163, u164, u165, u166, u167, u168, u169, u170, u171, u172, u173, u174, u175, u176, u177, u178, u179, u180, u181, u182, u183, u184, u185, u186, u187, u188, u189, u190, u191, u192, u193, u194, u195, u196, u197, u198, u199, u200, u201, u202, u203, u204, u205, u206, u207, u208, u209, u210, u211, u212, u213, u214, u215, u216, u217, u218, u219, u220, u221, u222, u223], []⟩ w := by
  have HNUM := Lib.hid hS
  have HPOST := Lib.hid hpost
  have hsz := hS.1
  clear hS hpost
  have hnd := hs.nd
  have hndj := hs.ndj
  have hdl := hs.d0
  have hdu := hs.d1
  clear hs
  obtain ⟨dot, dig, nd, dp, tr, D⟩ := st
  simp only [DS.dec, DS.at] at hnd hndj hdl hdu hd0 HPOST ⊢
  simp only at hd
  subst hd
  have hpd : -2000 ≤ d ∧ d ≤ 2000 := by
    unfold DS.point at hpt
    simp only at hpt
    split at hpt <;> omega
  have hpt2 : (dot = false ∧ d = nd) ∨ (dot = true ∧ d = dp) := by
    unfold DS.point at hpt
    cases dot
    · exact Or.inl ⟨rfl, by simpa using hpt.symm⟩
    · exact Or.inr ⟨rfl, by simpa using hpt.symm⟩
  clear hpt
  have hge : ¬ (p : Int) < (S.size : Int) := by omega
  have hne : ((p : Int) != (S.size : Int)) = false := by rw [bne_eq_false_iff_eq]; omega
  clear hy
  conv => arg 2; whnf
  conv => arg 4; dsimp only
  have c0 := hd0.hnd
  have f1 := hd0.fz 801
  have c1 := hd0.hdp
  simp only at c0 c1
  go_upto_if 120 with fail
  go_cut [] (fun wx => DecAt wx b ⟨D, nd, d, neg, tr⟩ ∧ Below b w wx)
  case first =>
    rcases hpt2 with ⟨rfl, rfl⟩ | ⟨rfl, rfl⟩
    · go_wp2_with fail
      go_meet
      exact ⟨hd0.setDp (nd : Int) _ rfl, (Below.refl b w).setCell (p := ⟨b, 801, none⟩) (Nat.le_refl _) _⟩
    · go_wp2_with fail
      go_meet
      exact ⟨hd0, Below.refl _ _⟩
  case rest =>
    obtain ⟨hd1, hb1⟩ := hcut
    clear hd0 c0 f1 c1
    have c1 := hd1.hdp
    have f1 := hd1.fz 801
    simp only at c1
    go_wp2_with fail
    (first | go_ret | skip)
    exact HPOST.out _ hd1 hb1

set_option maxRecDepth 100000 in
set_option maxHeartbeats 4000000 in
theorem ds_exp1 (S : ByteArray) (hS : Numeric S) (neg : Bool) (st : DS) (p j b : Nat) (_ : p ≤ S.size) (hs : DOk st j) (hj : j ≤ 2000) (d E : Int) (hd : st.dig = true) (hpt : st.point = d) (hy : p + 1 < S.size) (he : isE (ch S p)) (h43 : ch S (p + 1) = 43) (hsp : Span digN S (p + 1 + 1) S.size) (hqe : p + 1 + 1 < S.size) (hE : d + (eAt S (p + 1 + 1) (S.size - (p + 1 + 1)) : Nat) * (if sgnB (ch S (p + 1)) then -1 else 1) = E)
    (w : World) (post : Ending → World → Prop) (u2 u3 u8 u9 u10 u11 u12 u13 u14 u15 u16 u17 u18 u19 u20 u21 u22 u23 u24 u25 u26 u27 u28 u29 u30 u31 u32 u33 u34 u35 u36 u37 u38 u39 u40 u41 u42 u43 u44 u45 u46 u47 u48 u49 u50 u51 u52 u53 u54 u55 u56 u57 u58 u59 u60 u61 u62 u63 u64 u65 u66 u67 u68 u69 u70 u71 u72 u73 u74 u75 u76 u77 u78 u79 u80 u81 u82 u83 u84 u85 u86 u87 u88 u89 u90 u91 u92 u93 u94 u95 u96 u97 u98 u99 u100 u101 u102 u103 u104 u105 u106 u107 u108 u109 u110 u111 u112 u113 u114 u115 u116 u117 u118 u119 u120 u121 u122 u123 u124 u125 u126 u127 u128 u129 u130 u131 u132 u133 u134 u135 u136 u137 u138 u139 u140 u141 u142 u143 u144 u145 u146 u147 u148 u149 u150 u151 u152 u153 u154 u155 u156 u157 u158 u159 u160 u161 u162 u163 u164 u165 u166 u167 u168 u169 u170 u171 u172 u173 u174 u175 u176 u177 u178 u179 u180 u181 u182 u183 u184 u185 u186 u187 u188 u189 u190 u191 u192 u193 u194 u195 u196 u197 u198 u199 u200 u201 u202 u203 u204 u205 u206 u207 u208 u209 u210 u211 u212 u213 u214 u215 u216 u217 u218 u219 u220 u221 u222 u223 : Value) (hd0 : DecAt w b (st.dec neg))
    (hpost : ∀ w', DecAt w' b (st.at neg E) → Below b w w' → post (.returned (.bool true)) w') :
    Code.wp Tryz.prog dsTail (bodyPost Tryz.prog Tryz.f58 post) ⟨#[.pointer (some ⟨b, 0, none⟩), .string S, u2, u3, .bool false, .int .i64 (p : Int), .bool st.dot, .bool st.dig, u8, u9, u10, u11, u12, u13, u14, u15, u16, u17, u18, u19, u20, u21, u22, u23, u24, u25, u26, u27, u28, u29, u30, u31, u32, u33, u34, u35, u36, u37, u38, u39, u40, u41, u42, u43, u44, u45, u46, u47, u48, u49, u50, u51, u52, u53, u54, u55, u56, u57, u58, u59, u60, u61, u62, u63, u64, u65, u66, u67, u68, u69, u70, u71, u72, u73, u74, u75, u76, u77, u78, u79, u80, u81, u82, u83, u84, u85, u86, u87, u88, u89, u90, u91, u92, u93, u94, u95, u96, u97, u98, u99, u100, u101, u102, u103, u104, u105, u106, u107, u108, u109, u110, u111, u112, u113, u114, u115, u116, u117, u118, u119, u120, u121, u122, u123, u124, u125, u126, u127, u128, u129, u130, u131, u132, u133, u134, u135, u136, u137, u138, u139, u140, u141, u142, u143, u144, u145, u146, u147, u148, u149, u150, u151, u152, u153, u154, u155, u156, u157, u158, u159, u160, u161, u162, u163, u164, u165, u166, u167, u168, u169, u170, u171, u172, u173, u174, u175, u176, u177, u178, u179, u180, u181, u182, u183, u184, u185, u186, u187, u188, u189, u190, u191, u192, u193, u194, u195, u196, u197, u198, u199, u200, u201, u202, u203, u204, u205, u206, u207, u208, u209, u210, u211, u212, u213, u214, u215, u216, u217, u218, u219, u220, u221, u222, u223], []⟩ w := by
  have HNUM := Lib.hid hS
  have HPOST := Lib.hid hpost
  have hsz := hS.1
  clear hS hpost
  have hnd := hs.nd
  have hndj := hs.ndj
  have hdl := hs.d0
  have hdu := hs.d1
  clear hs
  obtain ⟨dot, dig, nd, dp, tr, D⟩ := st
  simp only [DS.dec, DS.at] at hnd hndj hdl hdu hd0 HPOST ⊢
  simp only at hd
  subst hd
  have hlt : p < S.size := by omega
  obtain ⟨y, l, _, hyi, hlow, hle, hln⟩ := lower_at S HNUM.out p hlt
  have hl := hle he
  subst hl
  have hlt' : (p : Int) < (S.size : Int) := by omega
  have hlt2 : (p : Int) + 1 < (S.size : Int) := by omega
  have hpd : -2000 ≤ d ∧ d ≤ 2000 := by
    unfold DS.point at hpt
    simp only at hpt
    split at hpt <;> omega
  have hpt2 : (dot = false ∧ d = nd) ∨ (dot = true ∧ d = dp) := by
    unfold DS.point at hpt
    cases dot
    · exact Or.inl ⟨rfl, by simpa using hpt.symm⟩
    · exact Or.inr ⟨rfl, by simpa using hpt.symm⟩
  clear hpt
  have HSP := Lib.hid hsp
  clear hle hln he
  have hch := ch_eq S (p + 1) hy
  rw [h43] at hch
  have hci : ((S[p + 1]'hy).toNat : Int) = 43 := by omega
  have hg : (if sgnB (ch S (p + 1)) then -1 else 1 : Int) = 1 := by rw [h43]; rfl
  clear h43 hch
  rw [hg] at hE
  obtain ⟨z, -, hz, hz1, hz2⟩ := dig_at S _ (by omega) (HSP.out.all _ (Nat.le_refl _) hqe)
  have hq1 : decide (S.size ≤ (p + 1 + 1)) = false := decide_eq_false (by omega)
  have hq1' : decide ((S.size : Int) ≤ (p : Int) + 1 + 1) = false := decide_eq_false (by omega)
  have hq2 : decide ((z : Int) < 48) = false := decide_eq_false (by omega)
  have hq3 : decide ((57 : Int) < (z : Int)) = false := decide_eq_false (by omega)
  have HE2 := Lib.hid hE
  clear hE hg hsp
  obtain ⟨n, hn⟩ : ∃ n, S.size - (p + 1 + 1) = n := ⟨_, rfl⟩
  rw [hn] at HE2
  conv => arg 2; whnf
  conv => arg 4; dsimp only
  have c0 := hd0.hnd
  have f1 := hd0.fz 801
  have c1 := hd0.hdp
  simp only at c0 c1
  go_upto_if 120 with fail
  go_cut [] (fun wx => DecAt wx b ⟨D, nd, d, neg, tr⟩ ∧ Below b w wx)
  case first =>
    rcases hpt2 with ⟨rfl, rfl⟩ | ⟨rfl, rfl⟩
    · go_wp2_with fail
      go_meet
      exact ⟨hd0.setDp (nd : Int) _ rfl, (Below.refl b w).setCell (p := ⟨b, 801, none⟩) (Nat.le_refl _) _⟩
    · go_wp2_with fail
      go_meet
      exact ⟨hd0, Below.refl _ _⟩
  case rest =>
    obtain ⟨hd1, hb1⟩ := hcut
    clear hd0 c0 f1 c1
    have c1 := hd1.hdp
    have f1 := hd1.fz 801
    simp only at c1
    go_wp2_with fail
    refine (hlow _).mono ?_
    rintro en w' ⟨rfl, rfl⟩
    clear hlow
    go_wp2_with fail
    go_loopg [5, 9] n (fun k vi ve wr => ∃ t : Nat, k + t = n ∧ vi = .int .i64 ((p + 1 + 1) + t : Nat) ∧ ve = .int .i64 (eAt S (p + 1 + 1) t : Nat) ∧ wr = w')
    case atStart => exact ⟨0, by omega, by first | rfl | (congr 1; omega), rfl, rfl⟩
    case round =>
      clear hz hz1 hz2 hq1 hq1' hq2 hq3
      obtain ⟨t, ht, rfl, rfl, rfl⟩ := hrel
      have hev := eAt_le S (p + 1 + 1) n (fun i hi => HSP.out.all ((p + 1 + 1) + i) (by omega) (by omega)) t (by omega)
      cases gk with
      | zero =>
        have htn : t = n := by omega
        subst htn
        have hqe2 : (p + 1 + 1) + t = S.size := by omega
        rw [hqe2]
        have he2 := HE2.out
        obtain ⟨v, hv⟩ : ∃ v, eAt S (p + 1 + 1) t = v := ⟨_, rfl⟩
        rw [hv] at he2 hev ⊢
        have HE3 := Lib.hid he2
        clear he2 hv HE2 HSP hqe2 ht hn
        go_wp2_with fail
        (first | go_ret | skip)
        refine HPOST.out _ ?_ (hb1.setCell (p := ⟨b, 801, none⟩) (Nat.le_refl _) _)
        exact hd1.setDp E _ (by rw [← HE3.out]; congr 1; omega)
      | succ k =>
        obtain ⟨z, hZ, hz, hz1, hz2⟩ := dig_at S ((p + 1 + 1) + t) (by omega) (HSP.out.all ((p + 1 + 1) + t) (by omega) (by omega))
        have hlt : (((p + 1 + 1) + t : Nat) : Int) < (S.size : Int) := by omega
        have h95 : ((z : Int) == 95) = false := by rw [beq_eq_false_iff_ne]; omega
        have hnext : eAt S (p + 1 + 1) (t + 1) = if eAt S (p + 1 + 1) t < 10000 then eAt S (p + 1 + 1) t * 10 + (ch S ((p + 1 + 1) + t) - 48) else eAt S (p + 1 + 1) t := rfl
        rw [hZ] at hnext
        obtain ⟨v, hv⟩ : ∃ v, eAt S (p + 1 + 1) t = v := ⟨_, rfl⟩
        rw [hv] at hnext hev ⊢
        by_cases h10 : v < 10000
        · rw [if_pos h10] at hnext
          have h10' : (v : Int) < 10000 := by omega
          have HN := Lib.hid hnext
          clear hv hnext hZ h10
          go_wp2_with fail
          go_roundg k
          case measure => omega
          case rel => exact ⟨t + 1, by omega, by first | rfl | (congr 1; omega), by rw [HN.out]; congr 1; omega, rfl⟩
        · rw [if_neg h10] at hnext
          have h10' : ¬ (v : Int) < 10000 := by omega
          have HN := Lib.hid hnext
          clear hv hnext hZ h10
          go_wp2_with fail
          go_roundg k
          case measure => omega
          case rel => exact ⟨t + 1, by omega, by first | rfl | (congr 1; omega), by rw [HN.out], rfl⟩

set_option maxRecDepth 100000 in
set_option maxHeartbeats 4000000 in
theorem ds_exp2 (S : ByteArray) (hS : Numeric S) (neg : Bool) (st : DS) (p j b : Nat) (_ : p ≤ S.size) (hs : DOk st j) (hj : j ≤ 2000) (d E : Int) (hd : st.dig = true) (hpt : st.point = d) (hy : p + 1 < S.size) (he : isE (ch S p)) (h43 : ch S (p + 1) = 45) (hsp : Span digN S (p + 1 + 1) S.size) (hqe : p + 1 + 1 < S.size) (hE : d + (eAt S (p + 1 + 1) (S.size - (p + 1 + 1)) : Nat) * (if sgnB (ch S (p + 1)) then -1 else 1) = E)
    (w : World) (post : Ending → World → Prop) (u2 u3 u8 u9 u10 u11 u12 u13 u14 u15 u16 u17 u18 u19 u20 u21 u22 u23 u24 u25 u26 u27 u28 u29 u30 u31 u32 u33 u34 u35 u36 u37 u38 u39 u40 u41 u42 u43 u44 u45 u46 u47 u48 u49 u50 u51 u52 u53 u54 u55 u56 u57 u58 u59 u60 u61 u62 u63 u64 u65 u66 u67 u68 u69 u70 u71 u72 u73 u74 u75 u76 u77 u78 u79 u80 u81 u82 u83 u84 u85 u86 u87 u88 u89 u90 u91 u92 u93 u94 u95 u96 u97 u98 u99 u100 u101 u102 u103 u104 u105 u106 u107 u108 u109 u110 u111 u112 u113 u114 u115 u116 u117 u118 u119 u120 u121 u122 u123 u124 u125 u126 u127 u128 u129 u130 u131 u132 u133 u134 u135 u136 u137 u138 u139 u140 u141 u142 u143 u144 u145 u146 u147 u148 u149 u150 u151 u152 u153 u154 u155 u156 u157 u158 u159 u160 u161 u162 u163 u164 u165 u166 u167 u168 u169 u170 u171 u172 u173 u174 u175 u176 u177 u178 u179 u180 u181 u182 u183 u184 u185 u186 u187 u188 u189 u190 u191 u192 u193 u194 u195 u196 u197 u198 u199 u200 u201 u202 u203 u204 u205 u206 u207 u208 u209 u210 u211 u212 u213 u214 u215 u216 u217 u218 u219 u220 u221 u222 u223 : Value) (hd0 : DecAt w b (st.dec neg))
    (hpost : ∀ w', DecAt w' b (st.at neg E) → Below b w w' → post (.returned (.bool true)) w') :
    Code.wp Tryz.prog dsTail (bodyPost Tryz.prog Tryz.f58 post) ⟨#[.pointer (some ⟨b, 0, none⟩), .string S, u2, u3, .bool false, .int .i64 (p : Int), .bool st.dot, .bool st.dig, u8, u9, u10, u11, u12, u13, u14, u15, u16, u17, u18, u19, u20, u21, u22, u23, u24, u25, u26, u27, u28, u29, u30, u31, u32, u33, u34, u35, u36, u37, u38, u39, u40, u41, u42, u43, u44, u45, u46, u47, u48, u49, u50, u51, u52, u53, u54, u55, u56, u57, u58, u59, u60, u61, u62, u63, u64, u65, u66, u67, u68, u69, u70, u71, u72, u73, u74, u75, u76, u77, u78, u79, u80, u81, u82, u83, u84, u85, u86, u87, u88, u89, u90, u91, u92, u93, u94, u95, u96, u97, u98, u99, u100, u101, u102, u103, u104, u105, u106, u107, u108, u109, u110, u111, u112, u113, u114, u115, u116, u117, u118, u119, u120, u121, u122, u123, u124, u125, u126, u127, u128, u129, u130, u131, u132, u133, u134, u135, u136, u137, u138, u139, u140, u141, u142, u143, u144, u145, u146, u147, u148, u149, u150, u151, u152, u153, u154, u155, u156, u157, u158, u159, u160, u161, u162, u163, u164, u165, u166, u167, u168, u169, u170, u171, u172, u173, u174, u175, u176, u177, u178, u179, u180, u181, u182, u183, u184, u185, u186, u187, u188, u189, u190, u191, u192, u193, u194, u195, u196, u197, u198, u199, u200, u201, u202, u203, u204, u205, u206, u207, u208, u209, u210, u211, u212, u213, u214, u215, u216, u217, u218, u219, u220, u221, u222, u223], []⟩ w := by
  have HNUM := Lib.hid hS
  have HPOST := Lib.hid hpost
  have hsz := hS.1
  clear hS hpost
  have hnd := hs.nd
  have hndj := hs.ndj
  have hdl := hs.d0
  have hdu := hs.d1
  clear hs
  obtain ⟨dot, dig, nd, dp, tr, D⟩ := st
  simp only [DS.dec, DS.at] at hnd hndj hdl hdu hd0 HPOST ⊢
  simp only at hd
  subst hd
  have hlt : p < S.size := by omega
  obtain ⟨y, l, _, hyi, hlow, hle, hln⟩ := lower_at S HNUM.out p hlt
  have hl := hle he
  subst hl
  have hlt' : (p : Int) < (S.size : Int) := by omega
  have hlt2 : (p : Int) + 1 < (S.size : Int) := by omega
  have hpd : -2000 ≤ d ∧ d ≤ 2000 := by
    unfold DS.point at hpt
    simp only at hpt
    split at hpt <;> omega
  have hpt2 : (dot = false ∧ d = nd) ∨ (dot = true ∧ d = dp) := by
    unfold DS.point at hpt
    cases dot
    · exact Or.inl ⟨rfl, by simpa using hpt.symm⟩
    · exact Or.inr ⟨rfl, by simpa using hpt.symm⟩
  clear hpt
  have HSP := Lib.hid hsp
  clear hle hln he
  have hch := ch_eq S (p + 1) hy
  rw [h43] at hch
  have hci : ((S[p + 1]'hy).toNat : Int) = 45 := by omega
  have hg : (if sgnB (ch S (p + 1)) then -1 else 1 : Int) = -1 := by rw [h43]; rfl
  clear h43 hch
  rw [hg] at hE
  obtain ⟨z, -, hz, hz1, hz2⟩ := dig_at S _ (by omega) (HSP.out.all _ (Nat.le_refl _) hqe)
  have hq1 : decide (S.size ≤ (p + 1 + 1)) = false := decide_eq_false (by omega)
  have hq1' : decide ((S.size : Int) ≤ (p : Int) + 1 + 1) = false := decide_eq_false (by omega)
  have hq2 : decide ((z : Int) < 48) = false := decide_eq_false (by omega)
  have hq3 : decide ((57 : Int) < (z : Int)) = false := decide_eq_false (by omega)
  have HE2 := Lib.hid hE
  clear hE hg hsp
  obtain ⟨n, hn⟩ : ∃ n, S.size - (p + 1 + 1) = n := ⟨_, rfl⟩
  rw [hn] at HE2
  conv => arg 2; whnf
  conv => arg 4; dsimp only
  have c0 := hd0.hnd
  have f1 := hd0.fz 801
  have c1 := hd0.hdp
  simp only at c0 c1
  go_upto_if 120 with fail
  go_cut [] (fun wx => DecAt wx b ⟨D, nd, d, neg, tr⟩ ∧ Below b w wx)
  case first =>
    rcases hpt2 with ⟨rfl, rfl⟩ | ⟨rfl, rfl⟩
    · go_wp2_with fail
      go_meet
      exact ⟨hd0.setDp (nd : Int) _ rfl, (Below.refl b w).setCell (p := ⟨b, 801, none⟩) (Nat.le_refl _) _⟩
    · go_wp2_with fail
      go_meet
      exact ⟨hd0, Below.refl _ _⟩
  case rest =>
    obtain ⟨hd1, hb1⟩ := hcut
    clear hd0 c0 f1 c1
    have c1 := hd1.hdp
    have f1 := hd1.fz 801
    simp only at c1
    go_wp2_with fail
    refine (hlow _).mono ?_
    rintro en w' ⟨rfl, rfl⟩
    clear hlow
    go_wp2_with fail
    go_loopg [5, 9] n (fun k vi ve wr => ∃ t : Nat, k + t = n ∧ vi = .int .i64 ((p + 1 + 1) + t : Nat) ∧ ve = .int .i64 (eAt S (p + 1 + 1) t : Nat) ∧ wr = w')
    case atStart => exact ⟨0, by omega, by first | rfl | (congr 1; omega), rfl, rfl⟩
    case round =>
      clear hz hz1 hz2 hq1 hq1' hq2 hq3
      obtain ⟨t, ht, rfl, rfl, rfl⟩ := hrel
      have hev := eAt_le S (p + 1 + 1) n (fun i hi => HSP.out.all ((p + 1 + 1) + i) (by omega) (by omega)) t (by omega)
      cases gk with
      | zero =>
        have htn : t = n := by omega
        subst htn
        have hqe2 : (p + 1 + 1) + t = S.size := by omega
        rw [hqe2]
        have he2 := HE2.out
        obtain ⟨v, hv⟩ : ∃ v, eAt S (p + 1 + 1) t = v := ⟨_, rfl⟩
        rw [hv] at he2 hev ⊢
        have HE3 := Lib.hid he2
        clear he2 hv HE2 HSP hqe2 ht hn
        go_wp2_with fail
        (first | go_ret | skip)
        refine HPOST.out _ ?_ (hb1.setCell (p := ⟨b, 801, none⟩) (Nat.le_refl _) _)
        exact hd1.setDp E _ (by rw [← HE3.out]; congr 1; omega)
      | succ k =>
        obtain ⟨z, hZ, hz, hz1, hz2⟩ := dig_at S ((p + 1 + 1) + t) (by omega) (HSP.out.all ((p + 1 + 1) + t) (by omega) (by omega))
        have hlt : (((p + 1 + 1) + t : Nat) : Int) < (S.size : Int) := by omega
        have h95 : ((z : Int) == 95) = false := by rw [beq_eq_false_iff_ne]; omega
        have hnext : eAt S (p + 1 + 1) (t + 1) = if eAt S (p + 1 + 1) t < 10000 then eAt S (p + 1 + 1) t * 10 + (ch S ((p + 1 + 1) + t) - 48) else eAt S (p + 1 + 1) t := rfl
        rw [hZ] at hnext
        obtain ⟨v, hv⟩ : ∃ v, eAt S (p + 1 + 1) t = v := ⟨_, rfl⟩
        rw [hv] at hnext hev ⊢
        by_cases h10 : v < 10000
        · rw [if_pos h10] at hnext
          have h10' : (v : Int) < 10000 := by omega
          have HN := Lib.hid hnext
          clear hv hnext hZ h10
          go_wp2_with fail
          go_roundg k
          case measure => omega
          case rel => exact ⟨t + 1, by omega, by first | rfl | (congr 1; omega), by rw [HN.out]; congr 1; omega, rfl⟩
        · rw [if_neg h10] at hnext
          have h10' : ¬ (v : Int) < 10000 := by omega
          have HN := Lib.hid hnext
          clear hv hnext hZ h10
          go_wp2_with fail
          go_roundg k
          case measure => omega
          case rel => exact ⟨t + 1, by omega, by first | rfl | (congr 1; omega), by rw [HN.out], rfl⟩

set_option maxRecDepth 100000 in
set_option maxHeartbeats 4000000 in
theorem ds_exp3 (S : ByteArray) (hS : Numeric S) (neg : Bool) (st : DS) (p j b : Nat) (_ : p ≤ S.size) (hs : DOk st j) (hj : j ≤ 2000) (d E : Int) (hd : st.dig = true) (hpt : st.point = d) (hy : p + 1 < S.size) (he : isE (ch S p)) (h43 : ch S (p + 1) ≠ 43) (h45 : ch S (p + 1) ≠ 45) (hsp : Span digN S (p + 1) S.size) (hqe : p + 1 < S.size) (hE : d + (eAt S (p + 1) (S.size - (p + 1)) : Nat) * (if sgnB (ch S (p + 1)) then -1 else 1) = E)
    (w : World) (post : Ending → World → Prop) (u2 u3 u8 u9 u10 u11 u12 u13 u14 u15 u16 u17 u18 u19 u20 u21 u22 u23 u24 u25 u26 u27 u28 u29 u30 u31 u32 u33 u34 u35 u36 u37 u38 u39 u40 u41 u42 u43 u44 u45 u46 u47 u48 u49 u50 u51 u52 u53 u54 u55 u56 u57 u58 u59 u60 u61 u62 u63 u64 u65 u66 u67 u68 u69 u70 u71 u72 u73 u74 u75 u76 u77 u78 u79 u80 u81 u82 u83 u84 u85 u86 u87 u88 u89 u90 u91 u92 u93 u94 u95 u96 u97 u98 u99 u100 u101 u102 u103 u104 u105 u106 u107 u108 u109 u110 u111 u112 u113 u114 u115 u116 u117 u118 u119 u120 u121 u122 u123 u124 u125 u126 u127 u128 u129 u130 u131 u132 u133 u134 u135 u136 u137 u138 u139 u140 u141 u142 u143 u144 u145 u146 u147 u148 u149 u150 u151 u152 u153 u154 u155 u156 u157 u158 u159 u160 u161 u162 u163 u164 u165 u166 u167 u168 u169 u170 u171 u172 u173 u174 u175 u176 u177 u178 u179 u180 u181 u182 u183 u184 u185 u186 u187 u188 u189 u190 u191 u192 u193 u194 u195 u196 u197 u198 u199 u200 u201 u202 u203 u204 u205 u206 u207 u208 u209 u210 u211 u212 u213 u214 u215 u216 u217 u218 u219 u220 u221 u222 u223 : Value) (hd0 : DecAt w b (st.dec neg))
    (hpost : ∀ w', DecAt w' b (st.at neg E) → Below b w w' → post (.returned (.bool true)) w') :
    Code.wp Tryz.prog dsTail (bodyPost Tryz.prog Tryz.f58 post) ⟨#[.pointer (some ⟨b, 0, none⟩), .string S, u2, u3, .bool false, .int .i64 (p : Int), .bool st.dot, .bool st.dig, u8, u9, u10, u11, u12, u13, u14, u15, u16, u17, u18, u19, u20, u21, u22, u23, u24, u25, u26, u27, u28, u29, u30, u31, u32, u33, u34, u35, u36, u37, u38, u39, u40, u41, u42, u43, u44, u45, u46, u47, u48, u49, u50, u51, u52, u53, u54, u55, u56, u57, u58, u59, u60, u61, u62, u63, u64, u65, u66, u67, u68, u69, u70, u71, u72, u73, u74, u75, u76, u77, u78, u79, u80, u81, u82, u83, u84, u85, u86, u87, u88, u89, u90, u91, u92, u93, u94, u95, u96, u97, u98, u99, u100, u101, u102, u103, u104, u105, u106, u107, u108, u109, u110, u111, u112, u113, u114, u115, u116, u117, u118, u119, u120, u121, u122, u123, u124, u125, u126, u127, u128, u129, u130, u131, u132, u133, u134, u135, u136, u137, u138, u139, u140, u141, u142, u143, u144, u145, u146, u147, u148, u149, u150, u151, u152, u153, u154, u155, u156, u157, u158, u159, u160, u161, u162, u163, u164, u165, u166, u167, u168, u169, u170, u171, u172, u173, u174, u175, u176, u177, u178, u179, u180, u181, u182, u183, u184, u185, u186, u187, u188, u189, u190, u191, u192, u193, u194, u195, u196, u197, u198, u199, u200, u201, u202, u203, u204, u205, u206, u207, u208, u209, u210, u211, u212, u213, u214, u215, u216, u217, u218, u219, u220, u221, u222, u223], []⟩ w := by
  have HNUM := Lib.hid hS
  have HPOST := Lib.hid hpost
  have hsz := hS.1
  clear hS hpost
  have hnd := hs.nd
  have hndj := hs.ndj
  have hdl := hs.d0
  have hdu := hs.d1
  clear hs
  obtain ⟨dot, dig, nd, dp, tr, D⟩ := st
  simp only [DS.dec, DS.at] at hnd hndj hdl hdu hd0 HPOST ⊢
  simp only at hd
  subst hd
  have hlt : p < S.size := by omega
  obtain ⟨y, l, _, hyi, hlow, hle, hln⟩ := lower_at S HNUM.out p hlt
  have hl := hle he
  subst hl
  have hlt' : (p : Int) < (S.size : Int) := by omega
  have hlt2 : (p : Int) + 1 < (S.size : Int) := by omega
  have hpd : -2000 ≤ d ∧ d ≤ 2000 := by
    unfold DS.point at hpt
    simp only at hpt
    split at hpt <;> omega
  have hpt2 : (dot = false ∧ d = nd) ∨ (dot = true ∧ d = dp) := by
    unfold DS.point at hpt
    cases dot
    · exact Or.inl ⟨rfl, by simpa using hpt.symm⟩
    · exact Or.inr ⟨rfl, by simpa using hpt.symm⟩
  clear hpt
  have HSP := Lib.hid hsp
  clear hle hln he
  have hch := ch_eq S (p + 1) hy
  have hg : (if sgnB (ch S (p + 1)) then -1 else 1 : Int) = 1 := by
    have : sgnB (ch S (p + 1)) = false := decide_eq_false h45
    rw [this]; rfl
  obtain ⟨c, hcc⟩ : ∃ c, ch S (p + 1) = c := ⟨_, rfl⟩
  rw [hcc] at hch h43 h45
  have hci : ((S[p + 1]'hy).toNat : Int) = c := by omega
  have hc1 : ((c : Int) == 43) = false := by rw [beq_eq_false_iff_ne]; omega
  have hc2 : ((c : Int) == 45) = false := by rw [beq_eq_false_iff_ne]; omega
  clear h43 h45 hch hcc
  rw [hg] at hE
  obtain ⟨z, -, hz, hz1, hz2⟩ := dig_at S _ (by omega) (HSP.out.all _ (Nat.le_refl _) hqe)
  have hq1 : decide (S.size ≤ (p + 1)) = false := decide_eq_false (by omega)
  have hq1' : decide ((S.size : Int) ≤ (p : Int) + 1) = false := decide_eq_false (by omega)
  have hq2 : decide ((z : Int) < 48) = false := decide_eq_false (by omega)
  have hq3 : decide ((57 : Int) < (z : Int)) = false := decide_eq_false (by omega)
  have HE2 := Lib.hid hE
  clear hE hg hsp
  obtain ⟨n, hn⟩ : ∃ n, S.size - (p + 1) = n := ⟨_, rfl⟩
  rw [hn] at HE2
  conv => arg 2; whnf
  conv => arg 4; dsimp only
  have c0 := hd0.hnd
  have f1 := hd0.fz 801
  have c1 := hd0.hdp
  simp only at c0 c1
  go_upto_if 120 with fail
  go_cut [] (fun wx => DecAt wx b ⟨D, nd, d, neg, tr⟩ ∧ Below b w wx)
  case first =>
    rcases hpt2 with ⟨rfl, rfl⟩ | ⟨rfl, rfl⟩
    · go_wp2_with fail
      go_meet
      exact ⟨hd0.setDp (nd : Int) _ rfl, (Below.refl b w).setCell (p := ⟨b, 801, none⟩) (Nat.le_refl _) _⟩
    · go_wp2_with fail
      go_meet
      exact ⟨hd0, Below.refl _ _⟩
  case rest =>
    obtain ⟨hd1, hb1⟩ := hcut
    clear hd0 c0 f1 c1
    have c1 := hd1.hdp
    have f1 := hd1.fz 801
    simp only at c1
    go_wp2_with fail
    refine (hlow _).mono ?_
    rintro en w' ⟨rfl, rfl⟩
    clear hlow
    go_wp2_with fail
    go_loopg [5, 9] n (fun k vi ve wr => ∃ t : Nat, k + t = n ∧ vi = .int .i64 ((p + 1) + t : Nat) ∧ ve = .int .i64 (eAt S (p + 1) t : Nat) ∧ wr = w')
    case atStart => exact ⟨0, by omega, by first | rfl | (congr 1; omega), rfl, rfl⟩
    case round =>
      clear hz hz1 hz2 hq1 hq1' hq2 hq3
      obtain ⟨t, ht, rfl, rfl, rfl⟩ := hrel
      have hev := eAt_le S (p + 1) n (fun i hi => HSP.out.all ((p + 1) + i) (by omega) (by omega)) t (by omega)
      cases gk with
      | zero =>
        have htn : t = n := by omega
        subst htn
        have hqe2 : (p + 1) + t = S.size := by omega
        rw [hqe2]
        have he2 := HE2.out
        obtain ⟨v, hv⟩ : ∃ v, eAt S (p + 1) t = v := ⟨_, rfl⟩
        rw [hv] at he2 hev ⊢
        have HE3 := Lib.hid he2
        clear he2 hv HE2 HSP hqe2 ht hn
        go_wp2_with fail
        (first | go_ret | skip)
        refine HPOST.out _ ?_ (hb1.setCell (p := ⟨b, 801, none⟩) (Nat.le_refl _) _)
        exact hd1.setDp E _ (by rw [← HE3.out]; congr 1; omega)
      | succ k =>
        obtain ⟨z, hZ, hz, hz1, hz2⟩ := dig_at S ((p + 1) + t) (by omega) (HSP.out.all ((p + 1) + t) (by omega) (by omega))
        have hlt : (((p + 1) + t : Nat) : Int) < (S.size : Int) := by omega
        have h95 : ((z : Int) == 95) = false := by rw [beq_eq_false_iff_ne]; omega
        have hnext : eAt S (p + 1) (t + 1) = if eAt S (p + 1) t < 10000 then eAt S (p + 1) t * 10 + (ch S ((p + 1) + t) - 48) else eAt S (p + 1) t := rfl
        rw [hZ] at hnext
        obtain ⟨v, hv⟩ : ∃ v, eAt S (p + 1) t = v := ⟨_, rfl⟩
        rw [hv] at hnext hev ⊢
        by_cases h10 : v < 10000
        · rw [if_pos h10] at hnext
          have h10' : (v : Int) < 10000 := by omega
          have HN := Lib.hid hnext
          clear hv hnext hZ h10
          go_wp2_with fail
          go_roundg k
          case measure => omega
          case rel => exact ⟨t + 1, by omega, by first | rfl | (congr 1; omega), by rw [HN.out]; congr 1; omega, rfl⟩
        · rw [if_neg h10] at hnext
          have h10' : ¬ (v : Int) < 10000 := by omega
          have HN := Lib.hid hnext
          clear hv hnext hZ h10
          go_wp2_with fail
          go_roundg k
          case measure => omega
          case rel => exact ⟨t + 1, by omega, by first | rfl | (congr 1; omega), by rw [HN.out], rfl⟩
end Go.Proofs.YtodihpaabkplhaaGreatDoor
